/- A buffer of bytes that is appended to: what it holds, and that nothing else turns. -/
import Derived.Test.YtpbcfgehmalppaaGreatDoorWd
import Derived.WalkLawsBesides
import Derived.Lib.Hide
import Derived.Lib.AppendStr
namespace Go.Proofs.YtpbcfgehmalppaaGreatDoor
open Go.RowKit

theorem info_u8 : (Tryz.prog.info? 5).map (fun i => (i.zero, i.size, i.bytes)) = some (some (.int .u8 0), 1, 1) := by kernel_rfl

def bytesV (bs : List Int) : List Value := bs.map fun b => .int .u8 b
theorem bytesV_append (a b : List Int) : bytesV (a ++ b) = bytesV a ++ bytesV b := List.map_append
theorem bytesV_length (a : List Int) : (bytesV a).length = a.length := List.length_map _
theorem bytesV_one (a : List Int) : ∀ u ∈ bytesV a, u.oneCell' = true := by
  intro u hu
  obtain ⟨b, _, rfl⟩ := List.mem_map.1 hu
  rfl

/-- The buffer v holds bs in world W; since w0 only the block 'row' and what is new have turned, and v lies in one of these. -/
structure Bf (w0 W : World) (row : Option Nat) (v : Value) (bs : List Int) : Prop where
  own : W.ownsRow 0 5 1 v bs.length (bytesV bs)
  grown : w0.grownBy W row
  place : v.ownBlock = row ∨ ∃ g, v.ownBlock = some g ∧ w0.heap.size ≤ g

theorem Bf.drewN {w0 W : World} {row : Option Nat} {v : Value} {bs : List Int} (h : Bf w0 W row v bs) (n : Nat) : Bf w0 (W.drewN n) row v bs := ⟨h.own, only_drewN h.grown n, h.place⟩
theorem Bf.start {w : World} {v : Value} {bs : List Int} (h : w.ownsRow 0 5 1 v bs.length (bytesV bs)) : Bf w w v.ownBlock v bs := ⟨h, World.grownBy.refl w _, .inl rfl⟩
theorem Bf.nil (w : World) : Bf w w none (.slice none 0 0) [] := ⟨World.ownsRow_nil _ _ _ _, World.grownBy.refl w _, .inl rfl⟩

/-- What happens elsewhere since: 'W1' has grown out of W by the buffer's own block. -/
theorem Bf.step {w0 W W1 : World} {row : Option Nat} {v v1 : Value} {bs bs1 : List Int} (h : Bf w0 W row v bs) (hg : W.grownBy W1 v.ownBlock) (ho : W1.ownsRow 0 5 1 v1 bs1.length (bytesV bs1))
    (hp : v1.ownBlock = v.ownBlock ∨ ∃ g, v1.ownBlock = some g ∧ W.heap.size ≤ g) : Bf w0 W1 row v1 bs1 := by
  have hgr : w0.grownBy W1 row := ⟨hg.os.trans h.grown.os, hg.tape.trans h.grown.tape, hg.output.trans h.grown.output, Nat.le_trans h.grown.size hg.size, fun k hk hne => by
    refine (hg.block k (Nat.lt_of_lt_of_le hk h.grown.size) ?_).trans (h.grown.block k hk hne)
    intro e
    rcases h.place with hp | ⟨g, hp, hl⟩
    · exact hne (e.trans hp)
    · rw [hp] at e
      injection e with e
      omega⟩
  refine ⟨ho, hgr, ?_⟩
  rcases hp with hp | ⟨g, hp, hl⟩
  · rw [hp]; exact h.place
  · exact .inr ⟨g, hp, Nat.le_trans h.grown.size hl⟩

theorem Bf.below {w0 W W1 : World} {row : Option Nat} {v : Value} {bs : List Int} (h : Bf w0 W row v bs) (hb : Below W.heap.size W W1) : Bf w0 W1 row v bs := by
  refine h.step (only_of_below hb _) ?_ (.inl rfl)
  refine h.own.kept (only_of_below hb none) ?_
  cases v.ownBlock <;> simp

theorem _root_.Go.World.grownBy.below_new {w W1 : World} {o : Obj} (h : (w.alloc o).grownBy W1 (some w.heap.size)) : Below w.heap.size w W1 :=
  ⟨h.os, h.tape, h.output, Nat.le_trans (by simp) h.size, fun i hi => (h.block i (by simp; omega) (by intro e; injection e; omega)).trans (Below.heap_alloc w o i hi)⟩

section
variable {P : Program}
theorem run_bf_append1 {w0 W : World} {row : Option Nat} {v : Value} {bs : List Int} (b : Int) (c : Nat) (ty t : TypeId) (i : TypeInfo) (ht : P.underlying t = some (.slice 5)) (hi : P.info? 5 = some i) (hz : i.zero = some (.int .u8 0)) (hs : i.size = 1) (hby : i.bytes = 1)
    (h : Bf w0 W row v bs) (hb : bs.length + 1 ≤ 140737488355328) :
    ∃ v1 W1, (Builtin.append_ #[t, t] ty #[v, .slice (some ⟨W.heap.size, 0, none⟩) 1 c]).run P (W.alloc (.cells #[.int .u8 b] 5)) = .ok v1 W1 ∧ Bf w0 W1 row v1 (bs ++ [b]) := by
  have hcells : ∀ j u, ([Value.int .u8 b] : List Value)[j]? = some u → (W.alloc (.cells #[.int .u8 b] 5)).cell? ((⟨W.heap.size, 0, none⟩ : Addr).add j) = some u := by
    intro j u hu
    rcases j with _ | j
    · injection hu with hu; subst hu
      show (W.alloc _).cell? ⟨W.heap.size, 0, none⟩ = _
      rw [World.cell?_alloc_at _ _ _ _ rfl]; rfl
    · simp at hu
  obtain ⟨v1, W1, hrun, ho, hg, _, hp⟩ := run_append_own_at (P := P) (W.alloc (.cells #[.int .u8 b] 5)) 0 t ty 5 i (.int .u8 0) 1 1 ht hi hz hs hby rfl (by decide) v bs.length (bytesV bs) (h.own.alloc _) ⟨W.heap.size, 0, none⟩ 1 c [.int .u8 b] rfl hcells
    (by simp [Value.oneCell']) (by simp only [maxLen]; omega) (by omega) (Nat.zero_le _)
  refine ⟨v1, W1, hrun, h.step ((World.grownBy_alloc W _ v.ownBlock).trans hg) ?_ ?_⟩
  · simpa [bytesV] using ho
  · rcases hp with hp | hp
    · exact .inl hp
    · exact .inr ⟨_, hp, by simp⟩

theorem wpList_bf_append1 {ops : Array Oper} {rest : List Oper} {o : Oper} {a : Act} {Q : Exit → Act → World → Prop} (hgd : o.guard = none) (s x : Operand) (t : TypeId)
    (ho : o.op = .call { callee := .builtin .append, args := #[s, x], argTypes := #[t, t] })
    {w0 W : World} {row : Option Nat} {v : Value} {bs : List Int} {b : Int} {c : Nat} {i : TypeInfo} (ht : P.underlying t = some (.slice 5)) (hi : P.info? 5 = some i) (hz : i.zero = some (.int .u8 0)) (hsz : i.size = 1) (hby : i.bytes = 1)
    (hs : a.eval s = v) (hx : a.eval x = .slice (some ⟨W.heap.size, 0, none⟩) 1 c) (h : Bf w0 W row v bs) (hb : bs.length + 1 ≤ 140737488355328)
    (hk : ∀ v1 W1, Bf w0 W1 row v1 (bs ++ [b]) → wpList P ops Q rest (a.put o.dst v1) W1) : wpList P ops Q (o :: rest) a (W.alloc (.cells #[.int .u8 b] 5)) :=
  wpList_plain hgd fun K hK => by
    obtain ⟨v1, W1, hrun, h1⟩ := run_bf_append1 (P := P) b c o.type t i ht hi hz hsz hby h hb
    unfold Oper.wp execOp
    simp only [ho, resolve, invoke, builtin, Sem.run_bind, Sem.run_pure, Result.andThen_ok, List.map_toArray, List.map_cons, List.map_nil, hs, hx, hrun]
    exact hK _ _ (hk v1 W1 h1)

theorem wpList_bf_append1g {ops : Array Oper} {rest : List Oper} {o : Oper} {a : Act} {Q : Exit → Act → World → Prop} (hgd : o.guard = none) (s x : Operand) (t : TypeId)
    (ho : o.op = .call { callee := .builtin .append, args := #[s, x], argTypes := #[t, t] })
    {w0 W : World} {row : Option Nat} {v : Value} {bs : List Int} {b : Int} {c g : Nat} {i : TypeInfo} (ht : P.underlying t = some (.slice 5)) (hi : P.info? 5 = some i) (hz : i.zero = some (.int .u8 0)) (hsz : i.size = 1) (hby : i.bytes = 1)
    (hs : a.eval s = v) (hx : a.eval x = .slice (some ⟨g, 0, none⟩) 1 c) (h : Bf w0 W row v bs) (hg : g = W.heap.size) (hb : bs.length + 1 ≤ 140737488355328)
    (hk : ∀ v1 W1, Bf w0 W1 row v1 (bs ++ [b]) → wpList P ops Q rest (a.put o.dst v1) W1) : wpList P ops Q (o :: rest) a (W.alloc (.cells #[.int .u8 b] 5)) := by
  subst hg
  exact wpList_bf_append1 hgd s x t ho ht hi hz hsz hby hs hx h hb hk

/-- A string's bytes. -/
def strB (s : ByteArray) : List Int := s.data.toList.map fun b => (b.toNat : Int)
theorem strB_cells (s : ByteArray) : bytesV (strB s) = Lib.strCells s := by simp [bytesV, strB, Lib.strCells]
theorem strB_length (s : ByteArray) : (strB s).length = s.size := by
  have := Lib.strCells_length s
  rw [← strB_cells, bytesV_length] at this
  exact this

theorem run_bf_append_str {w0 W : World} {row : Option Nat} {v : Value} {bs : List Int} (s : ByteArray) (ty t u : TypeId) (i : TypeInfo) (ht : P.underlying t = some (.slice 5)) (hu : P.underlying u = some .string) (hi : P.info? 5 = some i) (hz : i.zero = some (.int .u8 0)) (hs : i.size = 1) (hby : i.bytes = 1)
    (h : Bf w0 W row v bs) (hb : bs.length + s.size ≤ 140737488355328) :
    ∃ v1 W1, (Builtin.append_ #[t, u] ty #[v, .string s]).run P W = .ok v1 W1 ∧ Bf w0 W1 row v1 (bs ++ strB s) := by
  have hml : bs.length + s.size ≤ maxLen := by simp only [maxLen]; omega
  have hfin : ∀ v1 W1, W1.ownsRow 0 5 1 v1 (bs.length + s.size) (bytesV bs ++ Lib.strCells s) → W.grownBy W1 v.ownBlock → (v1.ownBlock = v.ownBlock ∨ ∃ g, v1.ownBlock = some g ∧ W.heap.size ≤ g) → Bf w0 W1 row v1 (bs ++ strB s) := by
    intro v1 W1 ho hg hp
    refine h.step hg ?_ hp
    rw [bytesV_append, strB_cells, List.length_append, strB_length]
    exact ho
  rcases h.own.2 with ⟨rfl, hn⟩ | ⟨g, cap, cur, rfl, _, hg, hnc, hcm, hcs, htake⟩
  · have hbs : bs = [] := List.eq_nil_of_length_eq_zero hn
    subst hbs
    obtain ⟨v1, W1, hr, ho, hgr, _⟩ := Lib.run_append_own_string (P := P) W W.heap.size t u ty 5 i ht hu hi hz hs hby (.slice none 0 0) 0 [] (World.ownsRow_nil _ _ _ _) s (by simpa using hml) (by simpa using hb) (Nat.le_refl _)
    refine ⟨v1, W1, hr, hfin v1 W1 ?_ hgr ?_⟩
    · have ho' := ho
      refine ⟨by simpa [bytesV] using ho'.1, ?_⟩
      rcases ho'.2 with hx | ⟨g1, c1, cu1, e1, _, r1⟩
      · exact .inl (by simpa using hx)
      · exact .inr ⟨g1, c1, cu1, by simpa using e1, Nat.zero_le _, by simpa [bytesV] using r1⟩
    · rcases ho.2 with ⟨rfl, _⟩ | ⟨g1, c1, cu1, rfl, hb1, _⟩
      · exact .inl rfl
      · exact .inr ⟨g1, rfl, hb1⟩
  · obtain ⟨v1, W1, hr, ho, hgr, _⟩ := Lib.run_append_own_string (P := P) W 0 t u ty 5 i ht hu hi hz hs hby (.slice (some ⟨g, 0, none⟩) bs.length cap) bs.length (bytesV bs) h.own s hml hb (Nat.zero_le _)
    refine ⟨v1, W1, hr, hfin v1 W1 ho hgr ?_⟩
    by_cases hroom : bs.length + s.size ≤ cap
    · have hcs' : cur.size = cap := by simpa using hcs
      have hr2 := Lib.run_append_room_string (P := P) W t u ty 5 i ht hu hi hs g bs.length cap cur hg s hroom (by omega)
      rw [hr2] at hr
      injection hr with e1 _
      subst e1
      exact .inl rfl
    · have holds : ∀ j x, (bytesV bs)[j]? = some x → W.cell? ((⟨g, 0, none⟩ : Addr).add j) = some x := h.own.cells (g := g) rfl
      have hr2 := Lib.run_append_grow_string (P := P) W t u ty 5 i (.int .u8 0) ht hu hi hz ⟨g, 0, none⟩ bs.length cap (bytesV bs) (by rw [hs, bytesV_length, Nat.mul_one]) holds s (by omega) (by simp only [maxLen] at hml; omega) (by rw [hby]; exact growslice_fits (by omega) (by omega))
      rw [hr2] at hr
      injection hr with e1 _
      subst e1
      exact .inr ⟨W.heap.size, rfl, Nat.le_refl _⟩

theorem wpList_bf_append_str {ops : Array Oper} {rest : List Oper} {o : Oper} {a : Act} {Q : Exit → Act → World → Prop} (hgd : o.guard = none) (s x : Operand) (t u : TypeId)
    (ho : o.op = .call { callee := .builtin .append, args := #[s, x], argTypes := #[t, u] })
    {w0 W : World} {row : Option Nat} {v : Value} {bs : List Int} {str : ByteArray} {i : TypeInfo} (ht : P.underlying t = some (.slice 5)) (hu : P.underlying u = some .string) (hi : P.info? 5 = some i) (hz : i.zero = some (.int .u8 0)) (hsz : i.size = 1) (hby : i.bytes = 1)
    (hs : a.eval s = v) (hx : a.eval x = .string str) (h : Bf w0 W row v bs) (hb : bs.length + str.size ≤ 140737488355328)
    (hk : ∀ v1 W1, Bf w0 W1 row v1 (bs ++ strB str) → wpList P ops Q rest (a.put o.dst v1) W1) : wpList P ops Q (o :: rest) a W :=
  wpList_plain hgd fun K hK => by
    obtain ⟨v1, W1, hrun, h1⟩ := run_bf_append_str (P := P) str o.type t u i ht hu hi hz hsz hby h hb
    unfold Oper.wp execOp
    simp only [ho, resolve, invoke, builtin, Sem.run_bind, Sem.run_pure, Result.andThen_ok, List.map_toArray, List.map_cons, List.map_nil, hs, hx, hrun]
    exact hK _ _ (hk v1 W1 h1)
end

end Go.Proofs.YtpbcfgehmalppaaGreatDoor
