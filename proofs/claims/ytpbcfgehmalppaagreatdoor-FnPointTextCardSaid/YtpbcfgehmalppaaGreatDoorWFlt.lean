/- Words for floats as their bits, beside the print's own words: what is read, what is written, field by field. -/
import Derived.Test.YtpbcfgehmalppaaGreatDoorWMore
import Derived.Laws.Rows
import Derived.WalkLawsBesides
namespace Go.Proofs.YtpbcfgehmalppaaGreatDoorW.PrintWords
open Go.RowKit
theorem run_store_float (P : Program) (w : World) (a : Addr) (m : Mode) (k : FloatKind) (b : Nat) : (store a (.float k b) m).run P w = stored P w a (.float k b) m := run_store P w a _ m rfl
/-! Comparisons of floats, as the walk tells them. -/
def feq (a b : Nat) : Bool := FloatKind.f64.format.order a b == some .eq
def flt (a b : Nat) : Bool := FloatKind.f64.format.order a b == some .lt
def fgt (a b : Nat) : Bool := FloatKind.f64.format.order a b == some .gt
def fle (a b : Nat) : Bool := FloatKind.f64.format.order a b == some .lt || FloatKind.f64.format.order a b == some .eq
def fge (a b : Nat) : Bool := FloatKind.f64.format.order a b == some .gt || FloatKind.f64.format.order a b == some .eq
theorem fcmp_eql (t : TypeId) (a b : Nat) : binOp .eql t (.float .f64 a) (.float .f64 b) = pure (.bool (feq a b)) := binOp_float_cmp_eql t .f64 a b
theorem fcmp_neq (t : TypeId) (a b : Nat) : binOp .neq t (.float .f64 a) (.float .f64 b) = pure (.bool (!feq a b)) := binOp_float_cmp_neq t .f64 a b
theorem fcmp_lss (t : TypeId) (a b : Nat) : binOp .lss t (.float .f64 a) (.float .f64 b) = pure (.bool (flt a b)) := binOp_float_cmp_lss t .f64 a b
theorem fcmp_leq (t : TypeId) (a b : Nat) : binOp .leq t (.float .f64 a) (.float .f64 b) = pure (.bool (fle a b)) := binOp_float_cmp_leq t .f64 a b
theorem fcmp_gtr (t : TypeId) (a b : Nat) : binOp .gtr t (.float .f64 a) (.float .f64 b) = pure (.bool (fgt a b)) := binOp_float_cmp_gtr t .f64 a b
theorem fcmp_geq (t : TypeId) (a b : Nat) : binOp .geq t (.float .f64 a) (.float .f64 b) = pure (.bool (fge a b)) := binOp_float_cmp_geq t .f64 a b
/-! An index into an array of constants. -/
def arrAt {α : Type} (xs : List α) (j : Int) : Option α := if 0 ≤ j then xs[j.toNat]? else none
theorem run_index_arr {P : Program} (w : World) {T e n : Nat} {α : Type} {xs : List α} {j : Int} {x : α} (hT : P.underlying T = some (.array n e)) (hag : (isAgg e).run P w = .ok false w) (hsz : (sizeOf e).run P w = .ok 1 w) (hn : xs.length = n) (enc : α → Value) (k : IntKind) (h : arrAt xs j = some x) :
    (Instr.index T (.agg (xs.map enc).toArray) (.int k j)).run P w = .ok (enc x) w := by
  unfold arrAt at h
  split at h
  · rename_i h0
    obtain ⟨hl, he⟩ := List.getElem?_eq_some_iff.1 h
    have h1 : j < n := by omega
    have h2 : ((xs.map enc).toArray)[j.toNat]? = some (enc x) := by simp [h]
    simp [Instr.index, asIntOf, run_underlying hT, hsz, part, hag, h0, h1, h]
  · cases h
namespace Kd
def float : Kd Nat := scalar (Value.float .f64) (fun _ => rfl)
theorem heap_float : Heap Kd.float := ⟨fun _ h => h⟩
section
variable {w W : World} {A : Option Addr} {n : Nat}
theorem at_float {xs : List Nat} (h : Kd.float.C w A n xs) (i : Int) (h0 : 0 ≤ i) (h1 : i < n) : ∃ ad, A = some ad ∧ w.cell? (ad.add i.toNat) = some (.float .f64 (rdOf (0 : Nat) xs i)) :=
  ReadsOf.at_ (reads_of_C (enc := Value.float .f64) (d := (0 : Nat)) (h1 := fun _ => rfl) h) i h0 h1
variable {ad : Addr}
theorem foot_float {l : List Nat} (h : Kd.float.C w (some ad) n l) (i : Int) (h0 : 0 ≤ i) (h1 : i < n) : w.cell? (ad.add i.toNat) = some (.float .f64 (rdOf (0 : Nat) l i)) := by
  obtain ⟨ad', he, hc⟩ := at_float h i h0 h1
  injection he with he
  subst he
  exact hc
end
end Kd
end Go.Proofs.YtpbcfgehmalppaaGreatDoorW.PrintWords
