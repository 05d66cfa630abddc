/- Rows of one-cell values that the call itself makes: what they hold, and that nothing else turns. -/
import Derived.Test.YtpbcfgehmalppaaGreatDoorFtD
import Derived.Deep.RegionWith
import Derived.Handy
import Derived.LoopTactic
import Derived.Deep.LoopGhost
namespace Go.Proofs.YtpbcfgehmalppaaGreatDoor
open Go.RowKit

/-- The row v of element type e holds xs in world W; since w0 only the block 'row' and what is new have turned. -/
structure Rw (e : TypeId) (w0 W : World) (row : Option Nat) (v : Value) (xs : List Value) : Prop where
  own : W.ownsRow 0 e 1 v xs.length xs
  grown : w0.grownBy W row
  place : v.ownBlock = row ∨ ∃ g, v.ownBlock = some g ∧ w0.heap.size ≤ g

theorem Rw.nil (e : TypeId) (w : World) : Rw e w w none (.slice none 0 0) [] := ⟨World.ownsRow_nil _ _ _ _, World.grownBy.refl w _, .inl rfl⟩
theorem Rw.drewN {e : TypeId} {w0 W : World} {row : Option Nat} {v : Value} {xs : List Value} (h : Rw e w0 W row v xs) (n : Nat) : Rw e w0 (W.drewN n) row v xs := ⟨h.own, only_drewN h.grown n, h.place⟩
theorem Rw.step {e : TypeId} {w0 W W1 : World} {row : Option Nat} {v v1 : Value} {xs xs1 : List Value} (h : Rw e w0 W row v xs) (hg : W.grownBy W1 v.ownBlock) (ho : W1.ownsRow 0 e 1 v1 xs1.length xs1)
    (hp : v1.ownBlock = v.ownBlock ∨ ∃ g, v1.ownBlock = some g ∧ W.heap.size ≤ g) : Rw e w0 W1 row v1 xs1 := by
  have hgr : w0.grownBy W1 row := ⟨hg.os.trans h.grown.os, hg.tape.trans h.grown.tape, hg.output.trans h.grown.output, Nat.le_trans h.grown.size hg.size, fun k hk hne => by
    refine (hg.block k (Nat.lt_of_lt_of_le hk h.grown.size) ?_).trans (h.grown.block k hk hne)
    intro e
    rcases h.place with hp | ⟨g, hp, hl⟩
    · exact hne (e.trans hp)
    · rw [hp] at e
      injection e with e
      omega⟩
  refine ⟨ho, hgr, ?_⟩
  rcases hp with hp | ⟨g, hp, hl⟩
  · rw [hp]; exact h.place
  · exact .inr ⟨g, hp, Nat.le_trans h.grown.size hl⟩
theorem Rw.below {e : TypeId} {w0 W W1 : World} {row : Option Nat} {v : Value} {xs : List Value} (h : Rw e w0 W row v xs) (hb : Below W.heap.size W W1) : Rw e w0 W1 row v xs := by
  refine h.step (only_of_below hb _) ?_ (.inl rfl)
  refine h.own.kept (only_of_below hb none) ?_
  cases v.ownBlock <;> simp
theorem Rw.alloc {e : TypeId} {w0 W : World} {row : Option Nat} {v : Value} {xs : List Value} (h : Rw e w0 W row v xs) (o : Obj) : Rw e w0 (W.alloc o) row v xs := h.below ((Below.refl _ _).alloc (Nat.le_refl _) o)
/-- Nothing that was there at w0 has turned. -/
theorem Rw.below0 {e : TypeId} {w0 W : World} {v : Value} {xs : List Value} (h : Rw e w0 W none v xs) : Below w0.heap.size w0 W := ⟨h.grown.os, h.grown.tape, h.grown.output, h.grown.size, fun i hi => h.grown.block i hi (by simp)⟩
theorem Rw.cell {e : TypeId} {w0 W : World} {row : Option Nat} {v : Value} {xs : List Value} (h : Rw e w0 W row v xs) {k : Nat} (hk : k < xs.length) : ∃ g c, v = .slice (some ⟨g, 0, none⟩) xs.length c ∧ W.cell? ⟨g, k, none⟩ = some xs[k] := by
  rcases h.own.2 with ⟨_, hn⟩ | ⟨g, cap, cur, rfl, _⟩
  · omega
  · have hc := h.own.cells (g := g) rfl k xs[k] (List.getElem?_eq_getElem hk)
    have ha : (⟨g, 0, none⟩ : Addr).add k = ⟨g, k, none⟩ := by unfold Addr.add; split <;> simp_all
    rw [ha] at hc
    exact ⟨g, cap, rfl, hc⟩

section
variable {P : Program}
theorem run_rw_append {e : TypeId} {w0 W : World} {row : Option Nat} {v : Value} {xs : List Value} (news : List Value) (m c B : Nat) (ty t : TypeId) (z : Value) (i : TypeInfo) (ht : P.underlying t = some (.slice e)) (hi : P.info? e = some i) (hz : i.zero = some z) (hzc : z.cells.size = 1) (hs : i.size = 1) (hby : i.bytes = B)
    (hm : news.length = m) (h1 : ∀ u ∈ news, u.oneCell' = true) (h : Rw e w0 W row v xs) (hb : (xs.length + m) * B ≤ 140737488355328) (hb2 : xs.length + m ≤ 140737488355328) :
    ∃ v1 W1, (Builtin.append_ #[t, t] ty #[v, .slice (some ⟨W.heap.size, 0, none⟩) m c]).run P (W.alloc (.cells news.toArray e)) = .ok v1 W1 ∧ Rw e w0 W1 row v1 (xs ++ news) := by
  have hcells : ∀ j u, news[j]? = some u → (W.alloc (.cells news.toArray e)).cell? ((⟨W.heap.size, 0, none⟩ : Addr).add j) = some u := by
    intro j u hu
    have ha : (⟨W.heap.size, 0, none⟩ : Addr).add j = ⟨W.heap.size, j, none⟩ := by unfold Addr.add; split <;> simp_all
    rw [ha, cell_of_row (W.alloc (.cells news.toArray e)) W.heap.size j _ e (0, 0) (heap_alloc_new W _)]
    simpa using hu
  obtain ⟨v1, W1, hrun, ho, hg, _, hp⟩ := run_append_own_at (P := P) (W.alloc (.cells news.toArray e)) 0 t ty e i z 1 B ht hi hz hs hby hzc (by decide) v xs.length xs (h.own.alloc _) ⟨W.heap.size, 0, none⟩ m c news (by omega) hcells
    h1 (by simp only [maxLen]; omega) hb (Nat.zero_le _)
  refine ⟨v1, W1, hrun, h.step ((World.grownBy_alloc W _ v.ownBlock).trans hg) ?_ ?_⟩
  · rw [List.length_append, hm]; exact ho
  · rcases hp with hp | hp
    · exact .inl hp
    · exact .inr ⟨_, hp, by simp⟩

theorem wpList_rw_append {ops : Array Oper} {rest : List Oper} {o : Oper} {a : Act} {Q : Exit → Act → World → Prop} (hgd : o.guard = none) (s x : Operand) (t : TypeId)
    (ho : o.op = .call { callee := .builtin .append, args := #[s, x], argTypes := #[t, t] })
    {e : TypeId} {w0 W : World} {row : Option Nat} {v : Value} {xs news : List Value} {m c g B : Nat} {z : Value} {i : TypeInfo} (ht : P.underlying t = some (.slice e)) (hi : P.info? e = some i) (hz : i.zero = some z) (hzc : z.cells.size = 1) (hsz : i.size = 1) (hby : i.bytes = B)
    (hs : a.eval s = v) (hx : a.eval x = .slice (some ⟨g, 0, none⟩) m c) (h : Rw e w0 W row v xs) (hg : g = W.heap.size) (hm : news.length = m) (h1 : ∀ u ∈ news, u.oneCell' = true)
    (hb : (xs.length + m) * B ≤ 140737488355328) (hb2 : xs.length + m ≤ 140737488355328)
    (hk : ∀ v1 W1, Rw e w0 W1 row v1 (xs ++ news) → wpList P ops Q rest (a.put o.dst v1) W1) : wpList P ops Q (o :: rest) a (W.alloc (.cells news.toArray e)) := by
  subst hg
  exact wpList_plain hgd fun K hK => by
    obtain ⟨v1, W1, hrun, h1⟩ := run_rw_append (P := P) news m c B o.type t z i ht hi hz hzc hsz hby hm h1 h hb hb2
    unfold Oper.wp execOp
    simp only [ho, resolve, invoke, builtin, Sem.run_bind, Sem.run_pure, Result.andThen_ok, List.map_toArray, List.map_cons, List.map_nil, hs, hx, hrun]
    exact hK _ _ (hk v1 W1 h1)
end

theorem Rw.trans {e : TypeId} {w0 W W1 W2 : World} {row : Option Nat} {v v2 : Value} {xs xs2 : List Value} (h : Rw e w0 W row v xs) (hg : W.grownBy W1 none) (k : Rw e W1 W2 v.ownBlock v2 xs2) : Rw e w0 W2 row v2 xs2 := by
  refine h.step ?_ k.own ?_
  · exact ⟨k.grown.os.trans hg.os, k.grown.tape.trans hg.tape, k.grown.output.trans hg.output, Nat.le_trans hg.size k.grown.size, fun i hi hne => (k.grown.block i (Nat.lt_of_lt_of_le hi hg.size) hne).trans (hg.block i hi (by simp))⟩
  · exact k.place.imp id fun ⟨g, hg', hl⟩ => ⟨g, hg', Nat.le_trans hg.size hl⟩
theorem len_appV (a b : List Value) : (a ++ b).length = a.length + b.length := List.length_append
theorem box4 {e : TypeId} {w0 W : World} {row : Option Nat} {v : Value} {xs : List Value} {g T : Nat} {a b c d : Value} (h : Rw e w0 W row v xs) (hb : Blk w0 g T #[a, b, c, d]) (hne : row ≠ some g) :
    W.cell? ⟨g, 0, none⟩ = some a ∧ W.cell? ⟨g, 1, none⟩ = some b ∧ W.cell? ⟨g, 2, none⟩ = some c ∧ W.cell? ⟨g, 3, none⟩ = some d := by
  have h' := hb.grown h.grown (fun e => hne e.symm)
  exact ⟨h'.cell 0, h'.cell 1, h'.cell 2, h'.cell 3⟩

theorem info_f64 : (Tryz.prog.info? 45).map (fun i => (i.zero, i.size, i.bytes)) = some (some (.float .f64 0), 1, 8) := by kernel_rfl

/-- A place: X, Y, Z, M, as bits. -/
abbrev Pl := Nat × Nat × Nat × Nat
/-- The numbers of a place under a type of coordinates. -/
def plNums (dim : Int) (p : Pl) : List Nat := [p.1, p.2.1] ++ ((if dim % 2 = 1 then [p.2.2.1] else []) ++ (if dim / 2 % 2 = 1 then [p.2.2.2] else []))
def flV (xs : List Nat) : List Value := xs.map fun b => .float .f64 b
theorem flV_one (xs : List Nat) : ∀ u ∈ flV xs, u.oneCell' = true := by
  intro u hu
  obtain ⟨b, _, rfl⟩ := List.mem_map.1 hu
  rfl
/-- The places ps lie in block g. -/
def PlAt (w : World) (g : Nat) (ps : List Pl) : Prop := ∀ i p, ps[i]? = some p → w.cell? ⟨g, i * 4, none⟩ = some (.float .f64 p.1) ∧ w.cell? ⟨g, i * 4 + 1, none⟩ = some (.float .f64 p.2.1) ∧ w.cell? ⟨g, i * 4 + 2, none⟩ = some (.float .f64 p.2.2.1) ∧ w.cell? ⟨g, i * 4 + 3, none⟩ = some (.float .f64 p.2.2.2)
theorem PlAt.below {w w' : World} {g : Nat} {ps : List Pl} (h : PlAt w g ps) (hb : Below w.heap.size w w') : PlAt w' g ps := fun i p hp => by
  obtain ⟨c0, c1, c2, c3⟩ := h i p hp
  have k : ∀ {o : Nat} {u : Value}, w.cell? ⟨g, o, none⟩ = some u → w'.cell? ⟨g, o, none⟩ = some u := fun hc => (hb.cell (World.block_lt_of_cell? w _ hc)).trans hc
  exact ⟨k c0, k c1, k c2, k c3⟩
/-- The numbers of places. -/
def plsNums (dim : Int) (ps : List Pl) : List Nat := ps.flatMap (plNums dim)
theorem plsNums_snoc (dim : Int) (ps : List Pl) (p : Pl) : plsNums dim (ps ++ [p]) = plsNums dim ps ++ plNums dim p := by simp [plsNums]
theorem plNums_len (dim : Int) (p : Pl) : (plNums dim p).length ≤ 4 := by
  unfold plNums
  split <;> split <;> simp
theorem plsNums_len (dim : Int) (ps : List Pl) : (plsNums dim ps).length ≤ 4 * ps.length := by
  induction ps with
  | nil => simp [plsNums]
  | cons p ps ih =>
    have h1 := plNums_len dim p
    have e : plsNums dim (p :: ps) = plNums dim p ++ plsNums dim ps := by simp [plsNums]
    rw [e, List.length_append, List.length_cons]
    omega
theorem flV_append (a b : List Nat) : flV (a ++ b) = flV a ++ flV b := List.map_append
theorem flV_length (a : List Nat) : (flV a).length = a.length := List.length_map _
theorem take_snoc' {α : Type} (l : List α) (k : Nat) (h : k < l.length) : l.take (k + 1) = l.take k ++ [l[k]] := by
  rw [List.take_succ_eq_append_getElem h]

attribute [local go_sem] run_store_float

theorem i64_and1' (d : Int) : bits .and .i64 d 1 = d % 2 := by
  show IntKind.i64.wrap ((BitVec.ofInt 64 d &&& BitVec.ofInt 64 (1 : Int)).toNat : Int) = _
  rw [BitVec.toNat_and, show (BitVec.ofInt 64 (1 : Int)).toNat = 2 ^ 1 - 1 by decide, Nat.and_two_pow_sub_one_eq_mod, BitVec.toNat_ofInt, IntKind.wrap_i64]
  omega
theorem i64_and2' (d : Int) : bits .and .i64 d 2 = d / 2 % 2 * 2 := by
  show IntKind.i64.wrap ((BitVec.ofInt 64 d &&& BitVec.ofInt 64 (2 : Int)).toNat : Int) = _
  rw [BitVec.toNat_and, show (BitVec.ofInt 64 (2 : Int)).toNat = 2 by decide]
  have h : ∀ x : Nat, x &&& 2 = x / 2 % 2 * 2 := fun x => by
    have h1 := nat_bit 1 x
    simpa using h1
  rw [h, BitVec.toNat_ofInt, IntKind.wrap_i64]
  omega

set_option maxHeartbeats 4000000 in
set_option maxRecDepth 100000 in
theorem Nums_any (dim : Int) (ps : List Pl) (g c : Nat) (A : Option Addr) (hA : 0 < ps.length → A = some ⟨g, 0, none⟩) (w : World) (h : PlAt w g ps) (hl : ps.length ≤ 1000000000) :
    Calls Tryz.prog 60 #[.slice A ps.length c, .int .i64 dim] w fun e w' => ∃ v, e = .returned v ∧ Rw 45 w w' none v (flV (plsNums dim ps)) := by
  have g1 := i64_and1' dim
  have g2 := i64_and2' dim
  obtain ⟨i0, hi0, hz0, hz1, hz2⟩ := info_parts info_f64
  generalize hn : ps.length = n at *
  have HN := Lib.hid hn
  have HA := Lib.hid hA
  have HP := Lib.hid h
  clear hn hA h
  go_enter Tryz.func60, Tryz.ntmps60
  go_wp2
  go_loopw [5, 10] (fun u x wr => ∃ k : Nat, k ≤ n ∧ x = .int .i64 k ∧ Rw 45 w wr none u (flV (plsNums dim (ps.take k)))) (fun _ x _ => n - (intOf x).toNat)
  case atStart => exact ⟨0, Nat.zero_le _, rfl, Rw.nil _ _⟩
  case round =>
    obtain ⟨k, hk, rfl, h1⟩ := hrel
    by_cases hlt : k < n
    · obtain rfl := HA.out (by omega)
      have hkl : k < ps.length := by rw [HN.out]; exact hlt
      have hpk : ps[k]? = some ps[k] := List.getElem?_eq_getElem hkl
      obtain ⟨c0, c1, c2, c3⟩ := HP.out.below h1.below0 k _ hpk
      have hlen := plsNums_len dim (ps.take k)
      have hlt2 : (ps.take k).length ≤ k := List.length_take_le _ _
      have hts := take_snoc' ps k hkl
      have HS := Lib.hid hts
      clear hpk hts
      generalize ps[k] = p at *
      generalize ps.take k = pk at *
      obtain ⟨px, py, pz, pm⟩ := p
      have hbox : Blk (wr.alloc (.cells #[.float .f64 px, .float .f64 py, .float .f64 pz, .float .f64 pm] 88)) wr.heap.size 88 #[.float .f64 px, .float .f64 py, .float .f64 pz, .float .f64 pm] := Blk.new wr _ _
      have hvn : u5.ownBlock ≠ some wr.heap.size := fun e => by have := (h1.own.lt _ e).2; omega
      have h2 : Rw 45 (wr.alloc (.cells #[.float .f64 px, .float .f64 py, .float .f64 pz, .float .f64 pm] 88)) (wr.alloc (.cells #[.float .f64 px, .float .f64 py, .float .f64 pz, .float .f64 pm] 88)) u5.ownBlock u5 (flV (plsNums dim pk)) :=
        ⟨h1.own.alloc _, World.grownBy.refl _ _, .inl rfl⟩
      have hg : wr.grownBy (wr.alloc (.cells #[.float .f64 px, .float .f64 py, .float .f64 pz, .float .f64 pm] 88)) none := World.grownBy_alloc wr _ none
      have hlf : (flV (plsNums dim pk)).length ≤ 4000000000 := by rw [flV_length]; omega
      have HB := Lib.hid hbox
      have HV := Lib.hid hvn
      have HG := Lib.hid hg
      have H1 := Lib.hid h1
      clear hbox hvn hg h1
      generalize hxs : flV (plsNums dim pk) = xs at *
      have HX := Lib.hid hxs
      clear hxs
      rcases Int.emod_two_eq dim with hd | hd <;> rcases Int.emod_two_eq (dim / 2) with he | he
      all_goals
        have HD := Lib.hid hd
        have HE := Lib.hid he
        rw [hd] at g1
        rw [he] at g2
        clear hd he
        go_wp2_with (at_builtin; refine wpList_rw_append rfl _ _ _ rfl Tryz.underlying22 hi0 hz0 rfl hz1 hz2 rfl rfl (by assumption) (by first | rfl | simp) rfl (by simp [Value.oneCell']) (by first | omega | (simp only [len_appV, List.length_cons, List.length_nil]; omega)) (by first | omega | (simp only [len_appV, List.length_cons, List.length_nil]; omega)) ?_; intro v1 W1 h2; obtain ⟨b0, b1, b2, b3⟩ := box4 h2 HB.out HV.out)
        go_roundw
        case rel =>
          refine ⟨k + 1, by omega, by go_num, ?_⟩
          have h3 := H1.out.trans HG.out h2
          rw [HS.out, plsNums_snoc, flV_append, HX.out]
          unfold plNums flV
          rw [HD.out, HE.out]
          simpa [List.append_assoc] using h3
        case measure => simp [intOf]; omega
    · obtain rfl : n = k := by omega
      go_wp2
      go_ret
      refine ⟨_, rfl, ?_⟩
      have e : ps.take n = ps := List.take_of_length_le (by rw [HN.out]; exact Nat.le_refl _)
      rw [e] at h1
      exact h1

end Go.Proofs.YtpbcfgehmalppaaGreatDoor
