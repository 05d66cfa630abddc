import Derived.Test.YtofdccmmagcamaaGreatDoorBxU
import Derived.Test.YtofdccmmagcamaaGreatDoorMhN
/- What a parser of bytes has ahead of it, and its block. -/
set_option maxHeartbeats 8000000
set_option linter.unusedSimpArgs false
set_option linter.unusedVariables false
namespace Go.Proofs.YtofdccmmagcamaaGreatDoor
open Go.RowKit

/-- From offset o of block g (below B) on n bytes read as bs; the slice's capacity is c. -/
def By (w : World) (B g o n c : Nat) (bs : List Int) : Prop := bs.length = n ∧ n ≤ c ∧ g < B ∧ ∀ (j : Nat) (b : Int), bs[j]? = some b → w.cell? ⟨g, o + j, none⟩ = some (.int .u8 b)
theorem By.below {w w' : World} {B g o n c : Nat} {bs : List Int} (h : By w B g o n c bs) (hb : Below B w w') : By w' B g o n c bs := ⟨h.1, h.2.1, h.2.2.1, fun j b hj => (hb.cell (by exact h.2.2.1)).trans (h.2.2.2 j b hj)⟩
theorem By.cut {w : World} {B g o n c k : Nat} {a bs : List Int} (h : By w B g o n c (a ++ bs)) (hk : a.length = k) : By w B g (o + k) (n - k) (c - k) bs := by
  obtain ⟨h1, h2, h3, h4⟩ := h
  rw [List.length_append] at h1
  refine ⟨by omega, by omega, h3, fun j b hj => ?_⟩
  have := h4 (k + j) b (by rw [List.getElem?_append_right (by omega)]; rwa [show k + j - a.length = j by omega])
  rwa [← Nat.add_assoc] at this
theorem By.none_ {w : World} {B g o c : Nat} (hg : g < B) : By w B g o 0 c [] := ⟨rfl, Nat.zero_le _, hg, fun j b hj => by simp at hj⟩
/-- What a slice from k on has for its place. -/
def cutO (o c k : Nat) : Nat := if c = k then o else o + k
theorem By.cutO {w : World} {B g o n c k : Nat} {a bs : List Int} (h : By w B g o n c (a ++ bs)) (hk : a.length = k) : By w B g (cutO o c k) (n - k) (c - k) bs := by
  unfold Go.Proofs.YtofdccmmagcamaaGreatDoor.cutO
  split
  · rename_i e
    obtain ⟨h1, h2, h3, h4⟩ := h
    rw [List.length_append] at h1
    have : bs = [] := List.eq_nil_of_length_eq_zero (by omega)
    subst this
    rw [show n - k = 0 by simp at h1; omega]
    exact By.none_ h3
  · exact h.cut hk
theorem By.take {w : World} {B g o n c k : Nat} {a bs : List Int} (h : By w B g o n c (a ++ bs)) (hk : a.length = k) : By w B g o k c a := by
  obtain ⟨h1, h2, h3, h4⟩ := h
  rw [List.length_append] at h1
  exact ⟨hk, by omega, h3, fun j b hj => h4 j b (by rw [List.getElem?_append_left (List.getElem?_eq_some_iff.1 hj).1]; exact hj)⟩
/-- The parser's block: the bytes ahead of it, the byte order it has read, and whether that is the machine's own. -/
structure Wp (w : World) (B p : Nat) (bo : Int) (no : Bool) (bs : List Int) : Prop where
  hp : B ≤ p
  blk : ∃ g o n c, Blk w p 142 #[.slice (some ⟨g, o, none⟩) n c, .int .u8 bo, .bool no] ∧ By w B g o n c bs
theorem grown_below {B p : Nat} {w w' : World} (h : w.grownBy w' (some p)) (hp : B ≤ p) (hB : B ≤ w.heap.size) : Below B w w' :=
  ⟨h.os, h.tape, h.output, h.size, fun b hb => h.block b (Nat.lt_of_lt_of_le hb hB) (fun e => by injection e with e; omega)⟩
theorem Wp.lt {w : World} {B p : Nat} {bo : Int} {no : Bool} {bs : List Int} (h : Wp w B p bo no bs) : p < w.heap.size := by
  obtain ⟨g, o, n, c, hb, -⟩ := h.blk
  exact hb.lt
/-- What is made elsewhere. -/
theorem Wp.keep {w w' : World} {B p : Nat} {bo : Int} {no : Bool} {bs : List Int} (h : Wp w B p bo no bs) (hb : Below w.heap.size w w') : Wp w' B p bo no bs := by
  have hl := h.lt
  have hp := h.hp
  obtain ⟨g, o, n, c, h1, h2⟩ := h.blk
  exact ⟨h.hp, g, o, n, c, h1.below hb hl, h2.below (hb.mono (by omega))⟩
theorem numsB_append (big : Bool) (a b : List Nat) : numsB big (a ++ b) = numsB big a ++ numsB big b := by simp [numsB]
theorem set_right {l m : List Value} {k j : Nat} (hk : l.length = k) (u : Value) : (l ++ m).set (k + j) u = l ++ m.set j u := by
  rw [List.set_append_right _ _ (by omega), show k + j - l.length = j by omega]
end Go.Proofs.YtofdccmmagcamaaGreatDoor

/- Numbers that are no NaN; a tree all of whose numbers are none. -/
set_option maxHeartbeats 8000000
set_option linter.unusedSimpArgs false
set_option linter.unusedVariables false
namespace Go.Proofs.YtofdccmmagcamaaGreatDoor
open Go.RowKit

def feq (a b : Nat) : Bool := FloatKind.f64.format.order a b == some .eq
theorem fcmp_neq (t : TypeId) (a b : Nat) : binOp .neq t (.float .f64 a) (.float .f64 b) = pure (.bool (!feq a b)) := binOp_float_cmp_neq t .f64 a b
attribute [local go_sem] fcmp_neq

theorem isNaN_b (b : Nat) (w : World) : Calls Tryz.prog 41 #[.float .f64 b] w fun e w' => e = .returned (.bool (!feq b b)) ∧ w' = w := by
  go_enter Tryz.func41, Tryz.ntmps41
  go_wp2
  go_ret
  exact ⟨rfl, rfl⟩
theorem gNumber_b (b : Nat) (w : World) : Calls Tryz.prog 22 #[.float .f64 b] w fun e w' => e = .returned (.bool (feq b b)) ∧ w' = w := by
  go_enter Tryz.func22, Tryz.ntmps22
  go_wp2_with fail
  refine (isNaN_b b _).mono ?_
  rintro e w1 ⟨rfl, rfl⟩
  go_wp2
  go_ret
  exact ⟨by simp, rfl⟩
/-- No number is a NaN. -/
abbrev NoN : Gm → Prop := AllN (fun b => feq b b)
theorem gAll_no {w : World} {B : Nat} {v : Value} {t : Gm} (h : GmAt w B v t) (hs : t.sz ≤ 2000) (W : World) (hb : Below B w W) (hB : B ≤ W.heap.size) :
    Calls Tryz.prog 21 #[v, .func (.func 22) #[] #[]] W fun e W' => ∃ r : Bool, e = .returned (.bool r) ∧ (r = true → NoN t) ∧ Below W.heap.size W W' := gAll_of gNumber_b h hs W hb hB
theorem nan_empty : feq emptyBits emptyBits = false := by decide +kernel
theorem AllN.nums {P : Nat → Bool} {k d : Int} {ns : List Nat} {ks : List Gm} (h : AllN P (.mk k d ns ks)) : (∀ b ∈ ns, P b = true) ∧ ∀ t ∈ ks, AllN P t := by
  cases h with
  | mk a b => exact ⟨a, b⟩

end Go.Proofs.YtofdccmmagcamaaGreatDoor
