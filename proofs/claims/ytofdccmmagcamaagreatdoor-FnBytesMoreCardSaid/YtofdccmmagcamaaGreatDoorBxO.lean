import Derived.Test.YtofdccmmagcamaaGreatDoorBxI
/- The parser of bytes: a geometry's kind and type. -/
set_option maxHeartbeats 8000000
set_option linter.unusedSimpArgs false
set_option linter.unusedVariables false
namespace Go.Proofs.YtofdccmmagcamaaGreatDoor
open Go.RowKit

attribute [local go_sem] run_store_float

set_option maxRecDepth 100000 in
theorem parseType_any {W : World} {B p : Nat} {no : Bool} (big : Bool) {bs : List Int} {k d : Int} (k0 : 0 ≤ k) (k1 : k ≤ 6) (d0 : 0 ≤ d) (d1 : d ≤ 3) (h : Wp W B p (if big then 0 else 1) no (uB big 4 (codeK k + 1000 * d).toNat ++ bs)) :
    Calls Tryz.prog 143 #[.pointer (some ⟨p, 0, none⟩)] W fun e w' => e = .returned (.tuple #[.int .i64 k, .int .u8 d, .nilIface]) ∧ Wp w' B p (if big then 0 else 1) no bs ∧ W.grownBy w' (some p) := by
  have hx : (codeK k + 1000 * d).toNat < 4294967296 := (codeN_lt k0 k1 d0 d1).1
  have HU := Hd (parseUint32_any big _ hx h)
  clear h hx
  generalize (if big = true then (0 : Int) else 1) = bo at *
  have hk : k = 0 ∨ k = 1 ∨ k = 2 ∨ k = 3 ∨ k = 4 ∨ k = 5 ∨ k = 6 := by omega
  have hd : d = 0 ∨ d = 1 ∨ d = 2 ∨ d = 3 := by omega
  rcases hk with rfl | rfl | rfl | rfl | rfl | rfl | rfl <;> rcases hd with rfl | rfl | rfl | rfl
  all_goals
    go_enter Tryz.func143, Tryz.ntmps143
    go_wp2_with fail
    refine HU.out.mono ?_
    rintro e w1 ⟨rfl, h1, g1⟩
    have H1 := Hd h1
    have G1 := Hd g1
    clear h1 g1
    go_wp2
    go_returns
    exact ⟨rfl, H1.out, G1.out⟩

end Go.Proofs.YtofdccmmagcamaaGreatDoor
