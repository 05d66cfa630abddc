import Derived.Test.YtofdccmmagcamaaGreatDoorProg
import Derived.Below
import Derived.Laws.OwnMore
import Derived.Deep.AppendLies
import Derived.Deep.Draws
import Derived.Laws.Rows
import Derived.Maps.AppendAt
import Derived.RegionTactic
import Derived.OwnWalk
import Derived.Deep.QuietTactic
import Derived.Deep.OwnRows
import Derived.Laws.AppendOwn
import Derived.Laws.MakeOwn
import Derived.Laws.Entries
import Derived.WalkKit
import Derived.Lib.Hide
import Derived.Laws.BitsAllLaws
import Derived.Laws.BitsLemmas
import Derived.KernelRfl
import Derived.WalkLawsBesides
import Derived.Lib.AppendStr
import Derived.Deep.RegionWith
import Derived.Handy
import Derived.LoopTactic
import Derived.Deep.LoopGhost
import Derived.BigQuiet
import Derived.Laws.Concat
import Derived.OpenShut
import Derived.Laws.MathBits
import Derived.Laws.Externs
import Derived.Laws.BytesArg
import Derived.StillTailTactics
/- Words on memory for this seat's walks: a slice that reads as a list, a block that is known whole, an append from whatever source, frames (the blocks of the guide's pages extra-words and extra-small, copied as these pages say). -/
set_option maxHeartbeats 8000000
set_option linter.unusedSimpArgs false
set_option linter.unusedVariables false
namespace Go.Proofs.YtofdccmmagcamaaGreatDoor
theorem sA {α : Type _} (l : List α) (i : Nat) (a : α) : l.toArray.setIfInBounds i a = (l.set i a).toArray := List.setIfInBounds_toArray l i a
theorem sB {α : Type _} {x : α} {xs : List α} {a : α} : (x :: xs).set 0 a = a :: xs := List.set_cons_zero
theorem sC {α : Type _} {x : α} {xs : List α} {i : Nat} {a : α} : (x :: xs).set (i + 1) a = x :: xs.set i a := List.set_cons_succ
theorem Hd {p : Prop} (h : p) : _root_.Go.RowKit.Hid p := _root_.Go.Lib.hid h
open Go.RowKit

theorem block_of_add (a : Addr) (n : Nat) : (a.add n).block = a.block := by unfold Addr.add; split <;> rfl
theorem add_of_add (a : Addr) (i j : Nat) : (a.add i).add j = a.add (i + j) := by
  unfold Addr.add
  by_cases hi : i = 0 <;> by_cases hj : j = 0 <;> simp [hi, hj, Nat.add_assoc]

def Reads (w : World) (B size : Nat) (A : Option Addr) (n : Nat) (xs : List Value) : Prop :=
  xs.length = n * size ∧ (0 < n → ∃ ad, A = some ad ∧ ad.block < B ∧ ∀ j u, xs[j]? = some u → w.cell? (ad.add j) = some u)

section
variable {w w' : World} {B B' size n : Nat} {A : Option Addr} {xs : List Value}
theorem Reads.none_ : Reads w B size A 0 [] := ⟨by simp, fun h => absurd h (by omega)⟩
theorem Reads.at_ {k : Nat} (h : Reads w B 1 A n xs) (hk : k < n) : ∃ ad u, A = some ad ∧ ad.block < B ∧ xs[k]? = some u ∧ w.cell? (ad.add k) = some u := by
  obtain ⟨ad, e, hb, hc⟩ := h.2 (by omega)
  have hl : k < xs.length := by have := h.1; omega
  exact ⟨ad, xs[k], e, hb, List.getElem?_eq_getElem hl, hc k _ (List.getElem?_eq_getElem hl)⟩
theorem Reads.keep (h : Reads w B size A n xs) (hk : ∀ p : Addr, p.block < B → w'.cell? p = w.cell? p) : Reads w' B size A n xs :=
  ⟨h.1, fun hn => by
    obtain ⟨ad, e, hb, hc⟩ := h.2 hn
    exact ⟨ad, e, hb, fun j u hu => (hk _ (by rw [block_of_add]; exact hb)).trans (hc j u hu)⟩⟩
theorem Reads.below (h : Reads w B size A n xs) (hb : Below B w w') : Reads w' B size A n xs := h.keep fun _ hp => hb.cell hp
theorem Reads.drew (h : Reads w B size A n xs) : Reads w.drew B size A n xs := h
theorem Reads.of_own {base : Nat} {e : TypeId} {c : Nat} (h : w.ownsRow base e size (.slice A n c) n xs) : Reads w w.heap.size size A n xs := by
  refine ⟨h.1, fun hn => ?_⟩
  obtain ⟨g, cap, hv, _, hlt⟩ := h.form hn
  have hA : A = some ⟨g, 0, none⟩ := by injection hv
  subst hA
  exact ⟨_, rfl, hlt, h.cells (g := g) rfl⟩
end

def Blk (w : World) (g : Nat) (t : TypeId) (cs : Array Value) : Prop := w.heap[g]? = some (.cells cs t (0, 0))

section
variable {w w' : World} {g : Nat} {t : TypeId} {cs : Array Value}
theorem Blk.lt (h : Blk w g t cs) : g < w.heap.size := by
  rcases Nat.lt_or_ge g w.heap.size with hlt | hge
  · exact hlt
  · unfold Blk at h; rw [Array.getElem?_eq_none hge] at h; cases h
theorem Blk.cell (h : Blk w g t cs) (i : Nat) : w.cell? ⟨g, i, none⟩ = cs[i]? := cell_of_row w g i cs t (0, 0) h
theorem Blk.frozen (h : Blk w g t cs) (i : Nat) : w.frozen? ⟨g, i, none⟩ = false := by
  unfold Blk at h
  simp [World.frozen?, h]
theorem Blk.new (w : World) (t : TypeId) (cs : Array Value) : Blk (w.alloc (.cells cs t)) w.heap.size t cs := heap_alloc_new w _
theorem Blk.drew (h : Blk w g t cs) : Blk w.drew g t cs := h
theorem Blk.drewN (h : Blk w g t cs) (n : Nat) : Blk (w.drewN n) g t cs := h
theorem Blk.alloc (h : Blk w g t cs) (o : Obj) : Blk (w.alloc o) g t cs := (Below.heap_alloc w o g h.lt).trans h
theorem Blk.set_ (h : Blk w g t cs) (i : Nat) (u : Value) : Blk (w.setCell ⟨g, i, none⟩ u) g t (cs.setIfInBounds i u) := by
  unfold Blk at h ⊢
  simp [World.setCell, Array.getElem?_modify, h]
theorem Blk.far (h : Blk w g t cs) {p : Addr} (hp : g ≠ p.block) (u : Value) : Blk (w.setCell p u) g t cs := (Below.heap_setCell w p u g hp).trans h
theorem Blk.below {B : Nat} (h : Blk w g t cs) (hb : Below B w w') (hg : g < B) : Blk w' g t cs := (hb.block g hg).trans h
theorem Blk.grown {row : Option Nat} (h : Blk w g t cs) (hb : w.grownBy w' row) (hg : some g ≠ row) : Blk w' g t cs := (hb.block g h.lt hg).trans h
theorem Blk.ne_ {g' : Nat} {t' : TypeId} {cs' : Array Value} (h : Blk w g t cs) (h' : Blk w g' t' cs') (hne : t ≠ t') : g ≠ g' := by
  rintro rfl
  unfold Blk at h h'
  rw [h] at h'
  injection h' with h'
  injection h' with _ ht
  exact hne ht
theorem own_blk_ne {base : Nat} {e : TypeId} {size n : Nat} {v : Value} {xs : List Value} (h : w.ownsRow base e size v n xs) (hg : Blk w g t cs) (hne : e ≠ t) : v.ownBlock ≠ some g := by
  rcases h.2 with ⟨rfl, _⟩ | ⟨g', cap, cur, rfl, _, hh, _⟩
  · simp [Value.ownBlock]
  · intro he
    have : g' = g := by simpa [Value.ownBlock] using he
    subst this
    exact Blk.ne_ (t := e) hh hg hne rfl
end

section
variable {P : Program} (w : World)

theorem run_append_of_nil (base : Nat) (t ty e : TypeId) (i : TypeInfo) (size : Nat) (ht : P.underlying t = some (.slice e)) (hi : P.info? e = some i)
    (v : Value) (n : Nat) (xs : List Value) (hown : w.ownsRow base e size v n xs) (c : Nat) : (Builtin.append_ #[t, t] ty #[v, .slice none 0 c]).run P w = .ok v w := by
  rcases hown.2 with ⟨rfl, rfl⟩ | ⟨g, cap, cur, rfl, _, _, hnc, _⟩
  · simp [Builtin.append_, run_underlying ht, sizeOf, typeInfo, hi, Builtin.lenOf, Builtin.firstCells]
  · simp [Builtin.append_, run_underlying ht, sizeOf, typeInfo, hi, Builtin.lenOf, Builtin.firstCells, hnc, storeCells]

theorem run_append_any (base : Nat) (t ty e : TypeId) (i : TypeInfo) (z : Value) (size bytes : Nat) (ht : P.underlying t = some (.slice e)) (hi : P.info? e = some i) (hz : i.zero = some z)
    (hsize : i.size = size) (hby : i.bytes = bytes) (hzs : z.cells.size = size) (hsz : 0 < size)
    (v : Value) (n : Nat) (xs : List Value) (hown : w.ownsRow base e size v n xs)
    (B : Nat) (A : Option Addr) (m c : Nat) (news : List Value) (hr : Reads w B size A m news) (h1 : ∀ u ∈ news, u.oneCell' = true)
    (h63 : n + m ≤ maxLen) (hbytes : (n + m) * bytes ≤ 140737488355328) (hbase : base ≤ w.heap.size) :
    ∃ v' w', (Builtin.append_ #[t, t] ty #[v, .slice A m c]).run P w = .ok v' w' ∧ w'.ownsRow base e size v' (n + m) (xs ++ news) ∧ w.grownBy w' v.ownBlock ∧
      (v'.ownBlock = v.ownBlock ∨ v'.ownBlock = some w.heap.size) := by
  rcases A with _ | ad
  · have hm : m = 0 := by
      rcases Nat.eq_zero_or_pos m with h0 | h0
      · exact h0
      · obtain ⟨ad, h, _⟩ := hr.2 h0
        cases h
    subst hm
    have hn : news = [] := List.eq_nil_of_length_eq_zero (by simpa using hr.1)
    subst hn
    exact ⟨v, w, run_append_of_nil w base t ty e i size ht hi v n xs hown c, by simpa using hown, World.grownBy.refl w _, .inl rfl⟩
  · have hcells : ∀ j u, news[j]? = some u → w.cell? (ad.add j) = some u := by
      intro j u hu
      rcases Nat.eq_zero_or_pos m with h0 | h0
      · subst h0
        have hn : news = [] := List.eq_nil_of_length_eq_zero (by simpa using hr.1)
        subst hn
        simp at hu
      · obtain ⟨ad', h, _, hc⟩ := hr.2 h0
        injection h with h
        subst h
        exact hc j u hu
    obtain ⟨v', w', hrun, h2, h3, _, h5⟩ := run_append_own_at (P := P) w base t ty e i z size bytes ht hi hz hsize hby hzs hsz v n xs hown ad m c news hr.1 hcells h1 h63 hbytes hbase
    exact ⟨v', w', hrun, h2, h3, h5⟩

theorem wp_append_any {o : Oper} {a : Act} {K : Act → World → Prop} {Q : Exit → Act → World → Prop} (s x : Operand) (t : TypeId)
    (ho : o.op = .call { callee := .builtin .append, args := #[s, x], argTypes := #[t, t] })
    (base : Nat) (e : TypeId) (i : TypeInfo) (z : Value) (size bytes : Nat) (ht : P.underlying t = some (.slice e)) (hi : P.info? e = some i) (hz : i.zero = some z)
    (hsize : i.size = size) (hby : i.bytes = bytes) (hzs : z.cells.size = size) (hsz : 0 < size)
    (v : Value) (n : Nat) (xs : List Value) (hs : a.eval s = v) (hown : w.ownsRow base e size v n xs)
    (B : Nat) (A : Option Addr) (m c : Nat) (news : List Value) (hx : a.eval x = .slice A m c) (hr : Reads w B size A m news) (h1 : ∀ u ∈ news, u.oneCell' = true)
    (h63 : n + m ≤ maxLen) (hbytes : (n + m) * bytes ≤ 140737488355328) (hbase : base ≤ w.heap.size)
    (h : ∀ v' w', w'.ownsRow base e size v' (n + m) (xs ++ news) → w.grownBy w' v.ownBlock → (v'.ownBlock = v.ownBlock ∨ v'.ownBlock = some w.heap.size) → K (a.put o.dst v') w') : o.wp P a w K Q := by
  obtain ⟨v', w', hrun, h2, h3, h4⟩ := run_append_any (P := P) w base t o.type e i z size bytes ht hi hz hsize hby hzs hsz v n xs hown B A m c news hr h1 h63 hbytes hbase
  unfold Oper.wp execOp
  simp only [ho, resolve, invoke, builtin, Sem.run_bind, Sem.run_pure, Result.andThen_ok, List.map_toArray, List.map_cons, List.map_nil, hs, hx, hrun]
  exact h v' w' h2 h3 h4

theorem wpList_append_any {ops : Array Oper} {rest : List Oper} {o : Oper} {a : Act} {Q : Exit → Act → World → Prop} (hgd : o.guard = none) (s x : Operand) (t : TypeId)
    (ho : o.op = .call { callee := .builtin .append, args := #[s, x], argTypes := #[t, t] })
    (base : Nat) (e : TypeId) (i : TypeInfo) (z : Value) (size bytes : Nat) (ht : P.underlying t = some (.slice e)) (hi : P.info? e = some i) (hz : i.zero = some z)
    (hsize : i.size = size) (hby : i.bytes = bytes) (hzs : z.cells.size = size) (hsz : 0 < size)
    (v : Value) (n : Nat) (xs : List Value) (hs : a.eval s = v) (hown : w.ownsRow base e size v n xs)
    (B : Nat) (A : Option Addr) (m c : Nat) (news : List Value) (hx : a.eval x = .slice A m c) (hr : Reads w B size A m news) (h1 : ∀ u ∈ news, u.oneCell' = true)
    (h63 : n + m ≤ maxLen) (hbytes : (n + m) * bytes ≤ 140737488355328) (hbase : base ≤ w.heap.size)
    (h : ∀ v' w', w'.ownsRow base e size v' (n + m) (xs ++ news) → w.grownBy w' v.ownBlock → (v'.ownBlock = v.ownBlock ∨ v'.ownBlock = some w.heap.size) → wpList P ops Q rest (a.put o.dst v') w') : wpList P ops Q (o :: rest) a w :=
  wpList_plain hgd fun _ hK => wp_append_any w s x t ho base e i z size bytes ht hi hz hsize hby hzs hsz v n xs hs hown B A m c news hx hr h1 h63 hbytes hbase fun v' w' h2 h3 h4 => hK _ _ (h v' w' h2 h3 h4)

theorem step_append_any {ops : Array Oper} {o : Oper} {a : Act} {K : Act → World → Prop} {Q : Exit → Act → World → Prop} {E : Prop} (hgd : o.guard = none) (s x : Operand) (t : TypeId)
    (ho : o.op = .call { callee := .builtin .append, args := #[s, x], argTypes := #[t, t] })
    (base : Nat) (e : TypeId) (i : TypeInfo) (z : Value) (size bytes : Nat) (ht : P.underlying t = some (.slice e)) (hi : P.info? e = some i) (hz : i.zero = some z)
    (hsize : i.size = size) (hby : i.bytes = bytes) (hzs : z.cells.size = size) (hsz : 0 < size)
    (v : Value) (n : Nat) (xs : List Value) (hs : a.eval s = v) (hown : w.ownsRow base e size v n xs)
    (B : Nat) (A : Option Addr) (m c : Nat) (news : List Value) (hx : a.eval x = .slice A m c) (hr : Reads w B size A m news) (h1 : ∀ u ∈ news, u.oneCell' = true)
    (h63 : n + m ≤ maxLen) (hbytes : (n + m) * bytes ≤ 140737488355328) (hbase : base ≤ w.heap.size)
    (h : ∀ v' w', w'.ownsRow base e size v' (n + m) (xs ++ news) → w.grownBy w' v.ownBlock → (v'.ownBlock = v.ownBlock ∨ v'.ownBlock = some w.heap.size) → K (a.put o.dst v') w') :
    if Region.wanted o (yielded ops a.tmps) = true then Oper.wp P o a w K Q else E := by
  have hw : Region.wanted o (yielded ops a.tmps) = true := by simp [Region.wanted, hgd]
  rw [if_pos hw]
  exact wp_append_any w s x t ho base e i z size bytes ht hi hz hsize hby hzs hsz v n xs hs hown B A m c news hx hr h1 h63 hbytes hbase h
end

theorem quiet_add_same {P : Program} {f : FuncId} {args : Array Value} {w : World} {a n : Nat} {v : Value}
    (h : Calls P f args (w.drewN (a + n)) fun e w' => e = .returned v ∧ w' = w.drewN (a + n)) :
    Calls P f args (w.drewN (a + n)) fun e w'' => e = .returned v ∧ ∃ m, w'' = w.drewN (a + m) :=
  h.mono fun _ _ ⟨he, hm⟩ => ⟨he, n, hm⟩
theorem below_drewN {B : Nat} {a w : World} (h : Below B a w) (n : Nat) : Below B a (w.drewN n) := ⟨h.os, h.tape, h.output, h.size, h.block⟩
theorem only_drew {a w : World} {row : Option Nat} (h : a.grownBy w row) : a.grownBy w.drew row := ⟨h.os, h.tape, h.output, h.size, h.block⟩
theorem only_alloc {a w : World} {row : Option Nat} (h : a.grownBy w row) (o : Obj) : a.grownBy (w.alloc o) row :=
  ⟨h.os, h.tape, h.output, Nat.le_trans h.size (by simp), fun i hi hne => (Below.heap_alloc w o i (Nat.lt_of_lt_of_le hi h.size)).trans (h.block i hi hne)⟩
theorem only_setCell {a w : World} {g : Nat} (h : a.grownBy w (some g)) {p : Addr} (hp : p.block = g ∨ a.heap.size ≤ p.block) (u : Value) : a.grownBy (w.setCell p u) (some g) :=
  ⟨h.os, h.tape, h.output, by simpa [World.setCell] using h.size, fun i hi hne => (Below.heap_setCell w p u i (by
    rintro rfl
    rcases hp with hp | hp
    · exact hne (by rw [hp])
    · omega)).trans (h.block i hi hne)⟩
theorem only_of_below {a w : World} (h : Below a.heap.size a w) (row : Option Nat) : a.grownBy w row := ⟨h.os, h.tape, h.output, h.size, fun i hi _ => h.block i hi⟩

theorem run_store_float (P : Program) (w : World) (a : Addr) (m : Mode) (k : FloatKind) (b : Nat) : (store a (.float k b) m).run P w = stored P w a (.float k b) m := run_store P w a _ m rfl
theorem run_make_rowN {P : Program} (t e : TypeId) (i : TypeInfo) (z : Value) (ht : P.underlying t = some (.slice e)) (hi : P.info? e = some i) (hz : i.zero = some z)
    (kl kc : IntKind) (n c : Nat) (hnc : n ≤ c) (hbytes : i.bytes * c ≤ 281474976710656) (h63 : c ≤ 9223372036854775807) (w : World) :
    (Instr.makeSlice t (.int kl (n : Int)) (.int kc (c : Int))).run P w = .ok (.slice (some ⟨w.heap.size, 0, none⟩) n c) (w.alloc (.cells (madeCells z.cells (c * i.size)) e)) := by
  have hb : (i.bytes : Int) * (c : Int) ≤ 281474976710656 := by
    have h : ((i.bytes * c : Nat) : Int) ≤ 281474976710656 := by omega
    rwa [Int.natCast_mul] at h
  have hr := run_make (P := P) w t e i z ht hi hz kl kc n c (by omega) (by omega) hb (by omega)
  simp only [Int.toNat_natCast] at hr
  exact hr
end Go.Proofs.YtofdccmmagcamaaGreatDoor

/- A buffer of bytes that is appended to: what it holds, and that nothing else turns. -/
set_option maxHeartbeats 8000000
set_option linter.unusedSimpArgs false
set_option linter.unusedVariables false
namespace Go.Proofs.YtofdccmmagcamaaGreatDoor
open Go.RowKit

theorem info_u8 : (Tryz.prog.info? 5).map (fun i => (i.zero, i.size, i.bytes)) = some (some (.int .u8 0), 1, 1) := by kernel_rfl

def bytesV (bs : List Int) : List Value := bs.map fun b => .int .u8 b
theorem bytesV_append (a b : List Int) : bytesV (a ++ b) = bytesV a ++ bytesV b := List.map_append
theorem bytesV_length (a : List Int) : (bytesV a).length = a.length := List.length_map _
theorem bytesV_one (a : List Int) : ∀ u ∈ bytesV a, u.oneCell' = true := by
  intro u hu
  obtain ⟨b, _, rfl⟩ := List.mem_map.1 hu
  rfl

/-- The buffer v holds bs in world W; since w0 only the block 'row' and what is new have turned, and v lies in one of these. -/
structure Bf (w0 W : World) (row : Option Nat) (v : Value) (bs : List Int) : Prop where
  own : W.ownsRow 0 5 1 v bs.length (bytesV bs)
  grown : w0.grownBy W row
  place : v.ownBlock = row ∨ ∃ g, v.ownBlock = some g ∧ w0.heap.size ≤ g

theorem Bf.start {w : World} {v : Value} {bs : List Int} (h : w.ownsRow 0 5 1 v bs.length (bytesV bs)) : Bf w w v.ownBlock v bs := ⟨h, World.grownBy.refl w _, .inl rfl⟩
section
variable {P : Program}
end

end Go.Proofs.YtofdccmmagcamaaGreatDoor

/- Rows of one-cell values that the call itself makes: what they hold, and that nothing else turns. -/
set_option maxHeartbeats 8000000
set_option linter.unusedSimpArgs false
set_option linter.unusedVariables false
namespace Go.Proofs.YtofdccmmagcamaaGreatDoor
open Go.RowKit

/-- The row v of element type e holds xs in world W; since w0 only the block 'row' and what is new have turned. -/
structure Rw (e : TypeId) (w0 W : World) (row : Option Nat) (v : Value) (xs : List Value) : Prop where
  own : W.ownsRow 0 e 1 v xs.length xs
  grown : w0.grownBy W row
  place : v.ownBlock = row ∨ ∃ g, v.ownBlock = some g ∧ w0.heap.size ≤ g

theorem Rw.nil (e : TypeId) (w : World) : Rw e w w none (.slice none 0 0) [] := ⟨World.ownsRow_nil _ _ _ _, World.grownBy.refl w _, .inl rfl⟩
theorem Rw.step {e : TypeId} {w0 W W1 : World} {row : Option Nat} {v v1 : Value} {xs xs1 : List Value} (h : Rw e w0 W row v xs) (hg : W.grownBy W1 v.ownBlock) (ho : W1.ownsRow 0 e 1 v1 xs1.length xs1)
    (hp : v1.ownBlock = v.ownBlock ∨ ∃ g, v1.ownBlock = some g ∧ W.heap.size ≤ g) : Rw e w0 W1 row v1 xs1 := by
  have hgr : w0.grownBy W1 row := ⟨hg.os.trans h.grown.os, hg.tape.trans h.grown.tape, hg.output.trans h.grown.output, Nat.le_trans h.grown.size hg.size, fun k hk hne => by
    refine (hg.block k (Nat.lt_of_lt_of_le hk h.grown.size) ?_).trans (h.grown.block k hk hne)
    intro e
    rcases h.place with hp | ⟨g, hp, hl⟩
    · exact hne (e.trans hp)
    · rw [hp] at e
      injection e with e
      omega⟩
  refine ⟨ho, hgr, ?_⟩
  rcases hp with hp | ⟨g, hp, hl⟩
  · rw [hp]; exact h.place
  · exact .inr ⟨g, hp, Nat.le_trans h.grown.size hl⟩
/-- Nothing that was there at w0 has turned. -/
theorem Rw.below0 {e : TypeId} {w0 W : World} {v : Value} {xs : List Value} (h : Rw e w0 W none v xs) : Below w0.heap.size w0 W := ⟨h.grown.os, h.grown.tape, h.grown.output, h.grown.size, fun i hi => h.grown.block i hi (by simp)⟩
section
variable {P : Program}
theorem run_rw_append {e : TypeId} {w0 W : World} {row : Option Nat} {v : Value} {xs : List Value} (news : List Value) (m c B : Nat) (ty t : TypeId) (z : Value) (i : TypeInfo) (ht : P.underlying t = some (.slice e)) (hi : P.info? e = some i) (hz : i.zero = some z) (hzc : z.cells.size = 1) (hs : i.size = 1) (hby : i.bytes = B)
    (hm : news.length = m) (h1 : ∀ u ∈ news, u.oneCell' = true) (h : Rw e w0 W row v xs) (hb : (xs.length + m) * B ≤ 140737488355328) (hb2 : xs.length + m ≤ 140737488355328) :
    ∃ v1 W1, (Builtin.append_ #[t, t] ty #[v, .slice (some ⟨W.heap.size, 0, none⟩) m c]).run P (W.alloc (.cells news.toArray e)) = .ok v1 W1 ∧ Rw e w0 W1 row v1 (xs ++ news) := by
  have hcells : ∀ j u, news[j]? = some u → (W.alloc (.cells news.toArray e)).cell? ((⟨W.heap.size, 0, none⟩ : Addr).add j) = some u := by
    intro j u hu
    have ha : (⟨W.heap.size, 0, none⟩ : Addr).add j = ⟨W.heap.size, j, none⟩ := by unfold Addr.add; split <;> simp_all
    rw [ha, cell_of_row (W.alloc (.cells news.toArray e)) W.heap.size j _ e (0, 0) (heap_alloc_new W _)]
    simpa using hu
  obtain ⟨v1, W1, hrun, ho, hg, _, hp⟩ := run_append_own_at (P := P) (W.alloc (.cells news.toArray e)) 0 t ty e i z 1 B ht hi hz hs hby hzc (by decide) v xs.length xs (h.own.alloc _) ⟨W.heap.size, 0, none⟩ m c news (by omega) hcells
    h1 (by simp only [maxLen]; omega) hb (Nat.zero_le _)
  refine ⟨v1, W1, hrun, h.step ((World.grownBy_alloc W _ v.ownBlock).trans hg) ?_ ?_⟩
  · rw [List.length_append, hm]; exact ho
  · rcases hp with hp | hp
    · exact .inl hp
    · exact .inr ⟨_, hp, by simp⟩

theorem wpList_rw_append {ops : Array Oper} {rest : List Oper} {o : Oper} {a : Act} {Q : Exit → Act → World → Prop} (hgd : o.guard = none) (s x : Operand) (t : TypeId)
    (ho : o.op = .call { callee := .builtin .append, args := #[s, x], argTypes := #[t, t] })
    {e : TypeId} {w0 W : World} {row : Option Nat} {v : Value} {xs news : List Value} {m c g B : Nat} {z : Value} {i : TypeInfo} (ht : P.underlying t = some (.slice e)) (hi : P.info? e = some i) (hz : i.zero = some z) (hzc : z.cells.size = 1) (hsz : i.size = 1) (hby : i.bytes = B)
    (hs : a.eval s = v) (hx : a.eval x = .slice (some ⟨g, 0, none⟩) m c) (h : Rw e w0 W row v xs) (hg : g = W.heap.size) (hm : news.length = m) (h1 : ∀ u ∈ news, u.oneCell' = true)
    (hb : (xs.length + m) * B ≤ 140737488355328) (hb2 : xs.length + m ≤ 140737488355328)
    (hk : ∀ v1 W1, Rw e w0 W1 row v1 (xs ++ news) → wpList P ops Q rest (a.put o.dst v1) W1) : wpList P ops Q (o :: rest) a (W.alloc (.cells news.toArray e)) := by
  subst hg
  exact wpList_plain hgd fun K hK => by
    obtain ⟨v1, W1, hrun, h1⟩ := run_rw_append (P := P) news m c B o.type t z i ht hi hz hzc hsz hby hm h1 h hb hb2
    unfold Oper.wp execOp
    simp only [ho, resolve, invoke, builtin, Sem.run_bind, Sem.run_pure, Result.andThen_ok, List.map_toArray, List.map_cons, List.map_nil, hs, hx, hrun]
    exact hK _ _ (hk v1 W1 h1)
end

theorem Rw.trans {e : TypeId} {w0 W W1 W2 : World} {row : Option Nat} {v v2 : Value} {xs xs2 : List Value} (h : Rw e w0 W row v xs) (hg : W.grownBy W1 none) (k : Rw e W1 W2 v.ownBlock v2 xs2) : Rw e w0 W2 row v2 xs2 := by
  refine h.step ?_ k.own ?_
  · exact ⟨k.grown.os.trans hg.os, k.grown.tape.trans hg.tape, k.grown.output.trans hg.output, Nat.le_trans hg.size k.grown.size, fun i hi hne => (k.grown.block i (Nat.lt_of_lt_of_le hi hg.size) hne).trans (hg.block i hi (by simp))⟩
  · exact k.place.imp id fun ⟨g, hg', hl⟩ => ⟨g, hg', Nat.le_trans hg.size hl⟩
theorem len_appV (a b : List Value) : (a ++ b).length = a.length + b.length := List.length_append
theorem box4 {e : TypeId} {w0 W : World} {row : Option Nat} {v : Value} {xs : List Value} {g T : Nat} {a b c d : Value} (h : Rw e w0 W row v xs) (hb : Blk w0 g T #[a, b, c, d]) (hne : row ≠ some g) :
    W.cell? ⟨g, 0, none⟩ = some a ∧ W.cell? ⟨g, 1, none⟩ = some b ∧ W.cell? ⟨g, 2, none⟩ = some c ∧ W.cell? ⟨g, 3, none⟩ = some d := by
  have h' := hb.grown h.grown (fun e => hne e.symm)
  exact ⟨h'.cell 0, h'.cell 1, h'.cell 2, h'.cell 3⟩

theorem info_f64 : (Tryz.prog.info? 73).map (fun i => (i.zero, i.size, i.bytes)) = some (some (.float .f64 0), 1, 8) := by kernel_rfl

/-- A place: X, Y, Z, M, as bits. -/
abbrev Pl := Nat × Nat × Nat × Nat
/-- The numbers of a place under a type of coordinates. -/
def plNums (dim : Int) (p : Pl) : List Nat := [p.1, p.2.1] ++ ((if dim % 2 = 1 then [p.2.2.1] else []) ++ (if dim / 2 % 2 = 1 then [p.2.2.2] else []))
def flV (xs : List Nat) : List Value := xs.map fun b => .float .f64 b
theorem flV_one (xs : List Nat) : ∀ u ∈ flV xs, u.oneCell' = true := by
  intro u hu
  obtain ⟨b, _, rfl⟩ := List.mem_map.1 hu
  rfl
/-- The places ps lie in block g. -/
def PlAt (w : World) (g : Nat) (ps : List Pl) : Prop := ∀ i p, ps[i]? = some p → w.cell? ⟨g, i * 4, none⟩ = some (.float .f64 p.1) ∧ w.cell? ⟨g, i * 4 + 1, none⟩ = some (.float .f64 p.2.1) ∧ w.cell? ⟨g, i * 4 + 2, none⟩ = some (.float .f64 p.2.2.1) ∧ w.cell? ⟨g, i * 4 + 3, none⟩ = some (.float .f64 p.2.2.2)
theorem PlAt.below {w w' : World} {g : Nat} {ps : List Pl} (h : PlAt w g ps) (hb : Below w.heap.size w w') : PlAt w' g ps := fun i p hp => by
  obtain ⟨c0, c1, c2, c3⟩ := h i p hp
  have k : ∀ {o : Nat} {u : Value}, w.cell? ⟨g, o, none⟩ = some u → w'.cell? ⟨g, o, none⟩ = some u := fun hc => (hb.cell (World.block_lt_of_cell? w _ hc)).trans hc
  exact ⟨k c0, k c1, k c2, k c3⟩
/-- The numbers of places. -/
def plsNums (dim : Int) (ps : List Pl) : List Nat := ps.flatMap (plNums dim)
theorem plsNums_snoc (dim : Int) (ps : List Pl) (p : Pl) : plsNums dim (ps ++ [p]) = plsNums dim ps ++ plNums dim p := by simp [plsNums]
theorem plNums_len (dim : Int) (p : Pl) : (plNums dim p).length ≤ 4 := by
  unfold plNums
  split <;> split <;> simp
theorem plsNums_len (dim : Int) (ps : List Pl) : (plsNums dim ps).length ≤ 4 * ps.length := by
  induction ps with
  | nil => simp [plsNums]
  | cons p ps ih =>
    have h1 := plNums_len dim p
    have e : plsNums dim (p :: ps) = plNums dim p ++ plsNums dim ps := by simp [plsNums]
    rw [e, List.length_append, List.length_cons]
    omega
theorem flV_append (a b : List Nat) : flV (a ++ b) = flV a ++ flV b := List.map_append
theorem flV_length (a : List Nat) : (flV a).length = a.length := List.length_map _
theorem take_snoc' {α : Type} (l : List α) (k : Nat) (h : k < l.length) : l.take (k + 1) = l.take k ++ [l[k]] := by
  rw [List.take_succ_eq_append_getElem h]

attribute [local go_sem] run_store_float

theorem i64_and1' (d : Int) : bits .and .i64 d 1 = d % 2 := by
  show IntKind.i64.wrap ((BitVec.ofInt 64 d &&& BitVec.ofInt 64 (1 : Int)).toNat : Int) = _
  rw [BitVec.toNat_and, show (BitVec.ofInt 64 (1 : Int)).toNat = 2 ^ 1 - 1 by decide, Nat.and_two_pow_sub_one_eq_mod, BitVec.toNat_ofInt, IntKind.wrap_i64]
  omega
theorem i64_and2' (d : Int) : bits .and .i64 d 2 = d / 2 % 2 * 2 := by
  show IntKind.i64.wrap ((BitVec.ofInt 64 d &&& BitVec.ofInt 64 (2 : Int)).toNat : Int) = _
  rw [BitVec.toNat_and, show (BitVec.ofInt 64 (2 : Int)).toNat = 2 by decide]
  have h : ∀ x : Nat, x &&& 2 = x / 2 % 2 * 2 := fun x => by
    have h1 := nat_bit 1 x
    simpa using h1
  rw [h, BitVec.toNat_ofInt, IntKind.wrap_i64]
  omega

set_option maxRecDepth 100000 in
theorem Nums_any (dim : Int) (ps : List Pl) (g c : Nat) (A : Option Addr) (hA : 0 < ps.length → A = some ⟨g, 0, none⟩) (w : World) (h : PlAt w g ps) (hl : ps.length ≤ 1000000000) :
    Calls Tryz.prog 58 #[.slice A ps.length c, .int .i64 dim] w fun e w' => ∃ v, e = .returned v ∧ Rw 73 w w' none v (flV (plsNums dim ps)) := by
  have g1 := i64_and1' dim
  have g2 := i64_and2' dim
  obtain ⟨i0, hi0, hz0, hz1, hz2⟩ := info_parts info_f64
  generalize hn : ps.length = n at *
  have HN := Hd hn
  have HA := Hd hA
  have HP := Hd h
  clear hn hA h
  go_enter Tryz.func58, Tryz.ntmps58
  go_wp2
  go_loopw [5, 10] (fun u x wr => ∃ k : Nat, k ≤ n ∧ x = .int .i64 k ∧ Rw 73 w wr none u (flV (plsNums dim (ps.take k)))) (fun _ x _ => n - (intOf x).toNat)
  case atStart => exact ⟨0, Nat.zero_le _, rfl, Rw.nil _ _⟩
  case round =>
    obtain ⟨k, hk, rfl, h1⟩ := hrel
    by_cases hlt : k < n
    · obtain rfl := HA.out (by omega)
      have hkl : k < ps.length := by rw [HN.out]; exact hlt
      have hpk : ps[k]? = some ps[k] := List.getElem?_eq_getElem hkl
      obtain ⟨c0, c1, c2, c3⟩ := HP.out.below h1.below0 k _ hpk
      have hlen := plsNums_len dim (ps.take k)
      have hlt2 : (ps.take k).length ≤ k := List.length_take_le _ _
      have hts := take_snoc' ps k hkl
      have HS := Hd hts
      clear hpk hts
      generalize ps[k] = p at *
      generalize ps.take k = pk at *
      obtain ⟨px, py, pz, pm⟩ := p
      have hbox : Blk (wr.alloc (.cells #[.float .f64 px, .float .f64 py, .float .f64 pz, .float .f64 pm] 100)) wr.heap.size 100 #[.float .f64 px, .float .f64 py, .float .f64 pz, .float .f64 pm] := Blk.new wr _ _
      have hvn : u5.ownBlock ≠ some wr.heap.size := fun e => by have := (h1.own.lt _ e).2; omega
      have h2 : Rw 73 (wr.alloc (.cells #[.float .f64 px, .float .f64 py, .float .f64 pz, .float .f64 pm] 100)) (wr.alloc (.cells #[.float .f64 px, .float .f64 py, .float .f64 pz, .float .f64 pm] 100)) u5.ownBlock u5 (flV (plsNums dim pk)) :=
        ⟨h1.own.alloc _, World.grownBy.refl _ _, .inl rfl⟩
      have hg : wr.grownBy (wr.alloc (.cells #[.float .f64 px, .float .f64 py, .float .f64 pz, .float .f64 pm] 100)) none := World.grownBy_alloc wr _ none
      have hlf : (flV (plsNums dim pk)).length ≤ 4000000000 := by rw [flV_length]; omega
      have HB := Hd hbox
      have HV := Hd hvn
      have HG := Hd hg
      have H1 := Hd h1
      clear hbox hvn hg h1
      generalize hxs : flV (plsNums dim pk) = xs at *
      have HX := Hd hxs
      clear hxs
      rcases Int.emod_two_eq dim with hd | hd <;> rcases Int.emod_two_eq (dim / 2) with he | he
      all_goals
        have HD := Hd hd
        have HE := Hd he
        rw [hd] at g1
        rw [he] at g2
        clear hd he
        go_wp2_with (at_builtin; refine wpList_rw_append rfl _ _ _ rfl Tryz.underlying22 hi0 hz0 rfl hz1 hz2 rfl rfl (by assumption) (by first | rfl | simp) rfl (by simp [Value.oneCell']) (by first | omega | (simp only [len_appV, List.length_cons, List.length_nil]; omega)) (by first | omega | (simp only [len_appV, List.length_cons, List.length_nil]; omega)) ?_; intro v1 W1 h2; obtain ⟨b0, b1, b2, b3⟩ := box4 h2 HB.out HV.out)
        go_roundw
        case rel =>
          refine ⟨k + 1, by omega, by go_num, ?_⟩
          have h3 := H1.out.trans HG.out h2
          rw [HS.out, plsNums_snoc, flV_append, HX.out]
          unfold plNums flV
          rw [HD.out, HE.out]
          simpa [List.append_assoc] using h3
        case measure => simp [intOf]; omega
    · obtain rfl : n = k := by omega
      go_wp2
      go_ret
      refine ⟨_, rfl, ?_⟩
      have e : ps.take n = ps := List.take_of_length_le (by rw [HN.out]; exact Nat.le_refl _)
      rw [e] at h1
      exact h1

end Go.Proofs.YtofdccmmagcamaaGreatDoor

/- The texts of numbers and places, as the package writes them. -/
set_option maxHeartbeats 8000000
set_option linter.unusedSimpArgs false
set_option linter.unusedVariables false
namespace Go.Proofs.YtofdccmmagcamaaGreatDoor
open Go.RowKit

attribute [local go_sem] run_store_float

theorem i64_and3 (d : Int) : bits .and .i64 d 3 = d % 4 := by
  show IntKind.i64.wrap ((BitVec.ofInt 64 d &&& BitVec.ofInt 64 (3 : Int)).toNat : Int) = _
  rw [BitVec.toNat_and, show (BitVec.ofInt 64 (3 : Int)).toNat = 2 ^ 2 - 1 by decide, Nat.and_two_pow_sub_one_eq_mod, BitVec.toNat_ofInt, IntKind.wrap_i64]
  omega

theorem is3D_any (t : Int) (b : Bool) (h : (t = 0 ∧ b = false) ∨ (t = 1 ∧ b = true) ∨ (t = 2 ∧ b = false) ∨ (t = 3 ∧ b = true)) (w : World) :
    Calls Tryz.prog 153 #[.int .u8 t] w fun e w' => e = .returned (.bool b) ∧ w' = w := by
  rcases h with ⟨rfl, rfl⟩ | ⟨rfl, rfl⟩ | ⟨rfl, rfl⟩ | ⟨rfl, rfl⟩ <;>
  · go_enter Tryz.func153, Tryz.ntmps153
    go_wp2
    go_ret
    exact ⟨rfl, rfl⟩

theorem isM_any (t : Int) (b : Bool) (h : (t = 0 ∧ b = false) ∨ (t = 1 ∧ b = false) ∨ (t = 2 ∧ b = true) ∨ (t = 3 ∧ b = true)) (w : World) :
    Calls Tryz.prog 154 #[.int .u8 t] w fun e w' => e = .returned (.bool b) ∧ w' = w := by
  rcases h with ⟨rfl, rfl⟩ | ⟨rfl, rfl⟩ | ⟨rfl, rfl⟩ | ⟨rfl, rfl⟩ <;>
  · go_enter Tryz.func154, Tryz.ntmps154
    go_wp2
    go_ret
    exact ⟨rfl, rfl⟩

end Go.Proofs.YtofdccmmagcamaaGreatDoor
