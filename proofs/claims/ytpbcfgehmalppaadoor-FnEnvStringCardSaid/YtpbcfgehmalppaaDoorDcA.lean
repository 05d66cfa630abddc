/- Scaling by the table of powers of ten is exact where the power's significand fits the table's 128 bits. -/
import Derived.Test.YtpbcfgehmalppaaDoorFtK
namespace Go.Proofs.YtpbcfgehmalppaaDoor
open Go.RowKit

/-- A quotient by a power of two, with its last bit 1 if anything is left over. -/
def unr (A S : Nat) : Nat := A / 2 ^ S ||| (if A % 2 ^ S = 0 then 0 else 1)

theorem or_one (a : Nat) : a ||| 1 = 2 * (a / 2) + 1 := by
  apply Nat.eq_of_testBit_eq
  intro i
  cases i with
  | zero => simp [Nat.testBit_or]
  | succ i =>
    rw [Nat.testBit_or, Nat.testBit_succ, Nat.testBit_succ, Nat.testBit_succ]
    have h1 : (1 : Nat) / 2 = 0 := rfl
    have h2 : (2 * (a / 2) + 1) / 2 = a / 2 := by omega
    rw [h1, h2]
    simp

theorem unr_cases (A S : Nat) : (A % 2 ^ S = 0 ∧ unr A S = A / 2 ^ S) ∨ (A % 2 ^ S ≠ 0 ∧ unr A S = 2 * (A / 2 ^ S / 2) + 1) := by
  unfold unr
  by_cases h : A % 2 ^ S = 0
  · left; simp [h]
  · right; rw [if_neg h, or_one]; exact ⟨h, rfl⟩

theorem unr_le {A S D : Nat} (h : A ≤ 4 * D * 2 ^ S) : unr A S ≤ 4 * D := by
  have hp : 0 < 2 ^ S := Nat.two_pow_pos S
  have hd := Nat.div_add_mod A (2 ^ S)
  have hq : A / 2 ^ S ≤ 4 * D := (Nat.div_le_iff_le_mul_add_pred hp).2 (by rw [Nat.mul_comm]; omega)
  rcases unr_cases A S with ⟨_, e⟩ | ⟨hm, e⟩
  · omega
  · have : A / 2 ^ S ≠ 4 * D := by
      intro e2
      rw [e2, Nat.mul_comm] at hd
      omega
    omega
theorem unr_lt {A S D : Nat} (h : A < 4 * D * 2 ^ S) : unr A S + 1 ≤ 4 * D := by
  have hp : 0 < 2 ^ S := Nat.two_pow_pos S
  have hq : A / 2 ^ S < 4 * D := Nat.div_lt_of_lt_mul (by rw [Nat.mul_comm]; exact h)
  rcases unr_cases A S with ⟨_, e⟩ | ⟨hm, e⟩ <;> omega
theorem le_unr {A S D : Nat} (h : 4 * D * 2 ^ S ≤ A) : 4 * D ≤ unr A S := by
  have hp : 0 < 2 ^ S := Nat.two_pow_pos S
  have hq : 4 * D ≤ A / 2 ^ S := (Nat.le_div_iff_mul_le hp).2 h
  rcases unr_cases A S with ⟨_, e⟩ | ⟨hm, e⟩ <;> omega
theorem lt_unr {A S D : Nat} (h : 4 * D * 2 ^ S < A) : 4 * D + 1 ≤ unr A S := by
  have hp : 0 < 2 ^ S := Nat.two_pow_pos S
  have hd := Nat.div_add_mod A (2 ^ S)
  have hq : 4 * D ≤ A / 2 ^ S := (Nat.le_div_iff_mul_le hp).2 (Nat.le_of_lt h)
  rcases unr_cases A S with ⟨hm, e⟩ | ⟨hm, e⟩
  · have : A / 2 ^ S ≠ 4 * D := by
      intro e2
      rw [e2, Nat.mul_comm] at hd
      omega
    omega
  · omega
theorem unr_floor (A S : Nat) : 4 * (unr A S / 4) * 2 ^ S ≤ A := by
  have hp : 0 < 2 ^ S := Nat.two_pow_pos S
  have h : 4 * (unr A S / 4) ≤ A / 2 ^ S := by rcases unr_cases A S with ⟨hm, e⟩ | ⟨hm, e⟩ <;> omega
  exact Nat.le_trans (Nat.mul_le_mul_right _ h) (Nat.div_mul_le_self A _)
theorem unr_bound {A S B : Nat} (h : A < B * 2 ^ S) : unr A S ≤ B := by
  have hq : A / 2 ^ S < B := Nat.div_lt_of_lt_mul (by rw [Nat.mul_comm]; exact h)
  rcases unr_cases A S with ⟨_, e⟩ | ⟨hm, e⟩ <;> omega

theorem u64id {n : Int} (h0 : 0 ≤ n) (h1 : n < 18446744073709551616) : IntKind.u64.wrap n = n := by rw [u64w0]; omega
theorem or_b (a : Nat) (b : Bool) (ha : a < 18446744073709551616) : bits .or .u64 (a : Int) (b2i b) = ((a ||| (if b = true then 1 else 0) : Nat) : Int) := by
  cases b
  · exact u64_or_nat a 0 ha (by omega)
  · exact u64_or_nat a 1 ha (by omega)

theorem div_pred {a M : Nat} (hM : 0 < M) (h : a % M ≠ 0) : (a - 1) / M = a / M := by
  have h1 := Nat.div_add_mod a M
  have h2 := Nat.mod_lt a hM
  have h3 : 0 < a % M := Nat.pos_of_ne_zero h
  have h4 : a % M - 1 < M := by omega
  have e : a - 1 = M * (a / M) + (a % M - 1) := by
    conv => lhs; rw [← h1]
    exact Nat.add_sub_assoc h3 _
  rw [e, Nat.mul_add_div hM, Nat.div_eq_of_lt h4, Nat.add_zero]

/-- The scaling is exact: of a product that is a multiple of 2^65. -/
theorem uscale_exact (x hi lo k : Nat) (hx : x < 18446744073709551616) (hh : hi < 18446744073709551616) (hl : lo < 18446744073709551616) (hlh : lo ≤ hi * 18446744073709551616) (hk : k ≤ 63)
    (hA : x * (hi * 18446744073709551616 - lo) % 36893488147419103232 = 0) :
    uscaleV x hi lo k = (unr (x * (hi * 18446744073709551616 - lo)) (128 + k) : Nat) := by
  have hM : 0 < 2 ^ k := Nat.two_pow_pos k
  have hy : x * hi < 18446744073709551616 * 18446744073709551616 := Nat.mul_lt_mul'' hx hh
  have hz : x * lo < 18446744073709551616 * 18446744073709551616 := Nat.mul_lt_mul'' hx hl
  have hle : x * lo ≤ x * hi * 18446744073709551616 := by rw [Nat.mul_assoc]; exact Nat.mul_le_mul_left _ hlh
  have eA : x * (hi * 18446744073709551616 - lo) = x * hi * 18446744073709551616 - x * lo := by rw [Nat.mul_sub, Nat.mul_assoc]
  rw [eA] at hA ⊢
  have c1 : (x : Int) * (hi : Int) = ((x * hi : Nat) : Int) := by simp
  have c2 : (x : Int) * (lo : Int) = ((x * lo : Nat) : Int) := by simp
  have c3 : ((2 : Int) ^ k) = ((2 ^ k : Nat) : Int) := by simp
  have hMb : 2 ^ k ≤ 2 ^ 63 := Nat.pow_le_pow_right (by omega) hk
  unfold uscaleV
  rw [c1, c2, c3]
  generalize x * hi = y at *
  generalize x * lo = z at *
  have eP : 2 ^ (128 + k) = 18446744073709551616 * 2 ^ k * 18446744073709551616 := by
    rw [Nat.pow_add]
    generalize 2 ^ k = M
    omega
  unfold unr
  rw [eP]
  generalize 2 ^ k = M at *
  obtain ⟨Y, hY, hY2⟩ : ∃ Y, y * 18446744073709551616 - z = Y * 18446744073709551616 ∧ Y % 2 = 0 := ⟨(y * 18446744073709551616 - z) / 18446744073709551616, by omega, by omega⟩
  have hzm : z % 18446744073709551616 = 0 := by omega
  have hYv : Y = y - z / 18446744073709551616 := by omega
  have hYle : z / 18446744073709551616 ≤ y := by omega
  rw [hY, Nat.mul_div_mul_right _ _ (by omega : 0 < 18446744073709551616), Nat.mul_mod_mul_right, ← Nat.div_div_eq_div_mul, Nat.mod_mul]
  have hq1 := Nat.div_add_mod (y / 18446744073709551616) M
  have hq2 := Nat.mod_lt (y / 18446744073709551616) hM
  have hdm : y / 18446744073709551616 / M * M ≤ y / 18446744073709551616 := Nat.div_mul_le_self _ _
  have hy1 : y / 18446744073709551616 < 18446744073709551616 := by omega
  have w1 : IntKind.u64.wrap (((y : Nat) : Int) / 18446744073709551616 / (M : Int) * (M : Int)) = ((y / 18446744073709551616 / M * M : Nat) : Int) := by
    rw [show ((y : Nat) : Int) / 18446744073709551616 / (M : Int) * (M : Int) = ((y / 18446744073709551616 / M * M : Nat) : Int) by simp]
    exact u64id (by omega) (by omega)
  rw [w1]
  have e1 : ((y : Nat) : Int) / 18446744073709551616 = ((y / 18446744073709551616 : Nat) : Int) := by simp
  rw [e1]
  by_cases hc : y / 18446744073709551616 % M = 0
  · have h1 : y / 18446744073709551616 / M * M = y / 18446744073709551616 := by rw [Nat.mul_comm]; omega
    rw [if_pos (by rw [h1])]
    by_cases hb : ((y : Nat) : Int) % 18446744073709551616 < ((z : Nat) : Int) / 18446744073709551616
    · have hY1 : Y / 18446744073709551616 = y / 18446744073709551616 - 1 := by omega
      have hR : Y % 18446744073709551616 ≠ 0 := by omega
      have hw : IntKind.u64.wrap (((y / 18446744073709551616 : Nat) : Int) - b2i (decide (((y : Nat) : Int) % 18446744073709551616 < ((z : Nat) : Int) / 18446744073709551616))) = ((y / 18446744073709551616 - 1 : Nat) : Int) := by
        rw [decide_eq_true hb]
        show IntKind.u64.wrap (((y / 18446744073709551616 : Nat) : Int) - 1) = _
        rw [u64id (by omega) (by omega)]
        omega
      rw [hw, show (((y / 18446744073709551616 - 1 : Nat) : Int)) / (M : Int) = ((((y / 18446744073709551616 - 1) / M : Nat)) : Int) by simp]
      have hgt : decide (IntKind.u64.wrap (((y : Nat) : Int) % 18446744073709551616 - ((z : Nat) : Int) / 18446744073709551616) > 1) = true := by
        apply decide_eq_true
        rw [u64w0]
        omega
      rw [hgt, or_b _ true (Nat.lt_of_le_of_lt (Nat.div_le_self _ _) (by omega)), hY1, if_pos rfl, if_neg (by omega)]
    · have hY1 : Y / 18446744073709551616 = y / 18446744073709551616 := by omega
      have hw : IntKind.u64.wrap (((y / 18446744073709551616 : Nat) : Int) - b2i (decide (((y : Nat) : Int) % 18446744073709551616 < ((z : Nat) : Int) / 18446744073709551616))) = ((y / 18446744073709551616 : Nat) : Int) := by
        rw [decide_eq_false hb]
        show IntKind.u64.wrap (((y / 18446744073709551616 : Nat) : Int) - 0) = _
        rw [u64id (by omega) (by omega)]
        omega
      rw [hw, show (((y / 18446744073709551616 : Nat) : Int)) / (M : Int) = ((((y / 18446744073709551616) / M : Nat)) : Int) by simp]
      have hR : Y % 18446744073709551616 = y % 18446744073709551616 - z / 18446744073709551616 := by omega
      have hdl : y / 18446744073709551616 / M < 18446744073709551616 := Nat.lt_of_le_of_lt (Nat.div_le_self _ _) (by omega)
      by_cases hz0 : Y % 18446744073709551616 = 0
      · have hgt : decide (IntKind.u64.wrap (((y : Nat) : Int) % 18446744073709551616 - ((z : Nat) : Int) / 18446744073709551616) > 1) = false := by
          apply decide_eq_false
          rw [u64w0]
          omega
        rw [hgt, or_b _ false hdl, hY1, hc, hz0]
        simp
      · have hgt : decide (IntKind.u64.wrap (((y : Nat) : Int) % 18446744073709551616 - ((z : Nat) : Int) / 18446744073709551616) > 1) = true := by
          apply decide_eq_true
          rw [u64w0]
          omega
        rw [hgt, or_b _ true hdl, hY1, if_pos rfl, if_neg (by omega)]
  · have h1 : y / 18446744073709551616 / M * M ≠ y / 18446744073709551616 := by
      intro e
      rw [Nat.mul_comm] at e
      omega
    rw [if_neg (by intro e; exact h1 (by exact_mod_cast e))]
    rw [show (((y / 18446744073709551616 : Nat) : Int)) / (M : Int) = ((((y / 18446744073709551616) / M : Nat)) : Int) by simp]
    have hdl : y / 18446744073709551616 / M < 18446744073709551616 := Nat.lt_of_le_of_lt (Nat.div_le_self _ _) (by omega)
    have e2 := or_b (y / 18446744073709551616 / M) true hdl
    rw [show b2i true = 1 from rfl] at e2
    rw [e2, if_pos rfl]
    by_cases hb : y % 18446744073709551616 < z / 18446744073709551616
    · have hY1 : Y / 18446744073709551616 = y / 18446744073709551616 - 1 := by omega
      have hR : Y % 18446744073709551616 ≠ 0 := by omega
      have hq : (y / 18446744073709551616 - 1) / M = y / 18446744073709551616 / M := div_pred hM hc
      rw [hY1, hq, if_neg (by omega)]
    · have hY1 : Y / 18446744073709551616 = y / 18446744073709551616 := by omega
      have : 18446744073709551616 * (y / 18446744073709551616 % M) ≠ 0 := by
        have : 0 < y / 18446744073709551616 % M := Nat.pos_of_ne_zero hc
        omega
      rw [hY1, if_neg (by omega)]

end Go.Proofs.YtpbcfgehmalppaaDoor
