/- The shortest decimal of a float that is nearest to a decimal of at most 15 digits is that decimal. -/
import Derived.Test.YtpbcfgehmalppaaDoorDcA
namespace Go.Proofs.YtpbcfgehmalppaaDoor
open Go.RowKit

def hiN (i : Nat) : Nat := (Pinned.pow10Rows.getD i (0, 0)).1
def loN (i : Nat) : Nat := (Pinned.pow10Rows.getD i (0, 0)).2
theorem hiT_eq (i : Nat) : hiT i = (hiN i : Int) := rfl
theorem loT_eq (i : Nat) : loT i = (loN i : Int) := rfl

set_option maxRecDepth 100000 in
theorem tab_fits : ∀ P : Nat, P < 32 → hiN (P + 348) < 18446744073709551616 ∧ loN (P + 348) < 18446744073709551616 ∧ loN (P + 348) ≤ hiN (P + 348) * 18446744073709551616 ∧
    hiN (P + 348) * 18446744073709551616 - loN (P + 348) = 10 ^ P * 2 ^ (127 - P * 108853 / 32768) ∧ (hiN (P + 348) * 18446744073709551616 - loN (P + 348)) % 72057594037927936 = 0 ∧ P * 108853 / 32768 ≤ 127 := by
  decide +kernel

/-- How wide a float's own interval is. -/
def widW (m : Nat) : Nat := if m = 9223372036854775808 then 1536 else 2048
def powP (m e : Int) : Int := sfP m e

theorem e_fits : ∀ j : Nat, j < 101 → (let e : Int := -((13 + j : Nat) : Int)
    let P := (-(((e + 11) * 631305 - 261663) / 2097152)).toNat
    (-(((e + 11) * 631305 - 261663) / 2097152) : Int) = (P : Int) ∧ 1 ≤ P ∧ P < 32 ∧ 1536 * 10 ^ P < 10 * 2 ^ (13 + j) ∧ 2 ^ (13 + j) ≤ 1536 * 10 ^ P ∧ P * 108853 / 32768 + 3 ≤ 13 + j ∧ 13 + j ≤ P * 108853 / 32768 + 66) ∧
  (let e : Int := -((13 + j : Nat) : Int)
    let P := (-((e + 11) * 78913 / 262144)).toNat
    (-((e + 11) * 78913 / 262144) : Int) = (P : Int) ∧ 1 ≤ P ∧ P < 32 ∧ 2048 * 10 ^ P < 10 * 2 ^ (13 + j) ∧ 2 ^ (13 + j) ≤ 2048 * 10 ^ P ∧ P * 108853 / 32768 + 3 ≤ 13 + j ∧ 13 + j ≤ P * 108853 / 32768 + 66) := by
  decide +kernel

theorem sfP_fits (j m : Nat) (hj : j < 101) : ∃ P : Nat, sfP m (-((13 + j : Nat) : Int)) = (P : Int) ∧ 1 ≤ P ∧ P < 32 ∧ widW m * 10 ^ P < 10 * 2 ^ (13 + j) ∧ 2 ^ (13 + j) ≤ widW m * 10 ^ P ∧ P * 108853 / 32768 + 3 ≤ 13 + j ∧ 13 + j ≤ P * 108853 / 32768 + 66 := by
  obtain ⟨h1, h2⟩ := e_fits j hj
  have hz : sfZ (-((13 + j : Nat) : Int)) = 11 := by unfold sfZ; rw [if_pos (by omega)]
  unfold sfP widW
  by_cases hm : m = 9223372036854775808
  · rw [if_pos ⟨by rw [hm]; rfl, by omega⟩, if_pos hm]
    exact ⟨_, h1⟩
  · rw [if_neg (by intro h; exact hm (by have := h.1; omega)), if_neg hm, hz]
    exact ⟨_, h2⟩

theorem mul512 {a b : Nat} (ha : a % 512 = 0) (hb : b % 72057594037927936 = 0) : a * b % 36893488147419103232 = 0 := by
  obtain ⟨c, rfl⟩ := Nat.dvd_of_mod_eq_zero ha
  obtain ⟨d, rfl⟩ := Nat.dvd_of_mod_eq_zero hb
  have e : 512 * c * (72057594037927936 * d) = 36893488147419103232 * (c * d) := by
    rw [show 36893488147419103232 = 512 * 72057594037927936 by decide, Nat.mul_mul_mul_comm]
  rw [e]
  exact Nat.mul_mod_right _ _

set_option maxRecDepth 100000 in
theorem sf_exact (j m x p : Nat) (hj : j < 101) (hm0 : 9223372036854775808 ≤ m) (hm1 : m < 18446744073709551616) (hm2 : m % 2048 = 0) (hx : x < 1000000000000000)
    (hlo : (m + 1024 - widW m) * 10 ^ p + m / 2048 % 2 ≤ x * 2 ^ (13 + j)) (hhi : x * 2 ^ (13 + j) + m / 2048 % 2 ≤ (m + 1024) * 10 ^ p) :
    ∃ P : Nat, p + 1 ≤ P ∧ P < 32 ∧ x * 10 ^ (P - 1 - p) < 9223372036854775808 ∧ sfV hiT loT m (-((13 + j : Nat) : Int)) = (((x * 10 ^ (P - 1 - p) : Nat) : Int), -((P : Int) - 1)) := by
  obtain ⟨P, hP, p1, p2, hw1, hw2, hk1, hk2⟩ := sfP_fits j m hj
  obtain ⟨t1, t2, t3, t4, t5, t6⟩ := tab_fits P p2
  have hW : widW m = 1536 ∨ widW m = 2048 := by unfold widW; split <;> simp
  have hWm : widW m = 1536 → m = 9223372036854775808 := by unfold widW; split <;> simp_all
  have hWm' : widW m = 2048 → m ≠ 9223372036854775808 := by unfold widW; split <;> simp_all
  have hF : 0 < 2 ^ (13 + j) := Nat.two_pow_pos _
  -- the decimal has fewer places than the table's power
  have hpP : p + 1 ≤ P := by
    refine Nat.lt_of_not_le fun hle => ?_
    have h1 : 10 ^ P ≤ 10 ^ p := Nat.pow_le_pow_right (by omega) hle
    have h2 : (m + 1024 - widW m) * 10 ^ p ≤ x * (widW m * 10 ^ p) :=
      Nat.le_trans (Nat.le_trans (Nat.le_add_right _ _) hlo) (Nat.mul_le_mul_left _ (Nat.le_trans hw2 (Nat.mul_le_mul_left _ h1)))
    rw [← Nat.mul_assoc] at h2
    have h3 := Nat.le_of_mul_le_mul_right h2 (Nat.pow_pos (by omega))
    have h4 : x * widW m ≤ 1000000000000000 * 2048 := Nat.mul_le_mul (by omega) (by omega)
    omega
  refine ⟨P, hpP, p2, ?_⟩
  obtain ⟨K, hK⟩ : ∃ K, 13 + j = P * 108853 / 32768 + 3 + K := ⟨13 + j - (P * 108853 / 32768 + 3), by omega⟩
  have hz : sfZ (-((13 + j : Nat) : Int)) = 11 := by unfold sfZ; rw [if_pos (by omega)]
  have eI : sfI m (-((13 + j : Nat) : Int)) = P + 348 := by unfold sfI; rw [hP]; omega
  have eK : sfK m (-((13 + j : Nat) : Int)) = K := by
    unfold sfK
    rw [hP]
    have : ((P : Nat) : Int) * 108853 / 32768 = ((P * 108853 / 32768 : Nat) : Int) := by simp
    rw [this]
    omega
  have eO : sfOdd m (-((13 + j : Nat) : Int)) = ((m / 2048 % 2 : Nat) : Int) := by
    unfold sfOdd
    rw [hz]
    show (m : Int) / 2048 % 2 = _
    simp
  have eMx : sfMax m (-((13 + j : Nat) : Int)) = ((m + 1024 : Nat) : Int) := by
    unfold sfMax
    rw [hz, show ((2 : Int) ^ ((11 : Int) - 1).toNat) = 1024 by rfl, u64id (by omega) (by omega)]
    omega
  have eMn : sfMin m (-((13 + j : Nat) : Int)) = ((m + 1024 - widW m : Nat) : Int) := by
    unfold sfMin
    rcases hW with h | h
    · have hm := hWm h
      rw [if_pos ⟨by rw [hm]; rfl, by omega⟩, u64id (by omega) (by omega)]
      omega
    · have hm := hWm' h
      rw [if_neg (by intro h; exact hm (by have := h.1; omega)), hz, show ((2 : Int) ^ ((11 : Int) - 1).toNat) = 1024 by rfl, u64id (by omega) (by omega)]
      omega
  have hodd : m / 2048 % 2 = 0 ∨ m / 2048 % 2 = 1 := by omega
  have hKs : 2 ^ (128 + K) * 4 = 2 ^ (127 - P * 108853 / 32768) * 2 ^ (13 + j) := by
    rw [show (4 : Nat) = 2 ^ 2 by rfl, ← Nat.pow_add, ← Nat.pow_add]
    congr 1
    omega
  have eMin : uscaleV (sfMin m (-((13 + j : Nat) : Int))) (hiT (sfI m (-((13 + j : Nat) : Int)))) (loT (sfI m (-((13 + j : Nat) : Int)))) (sfK m (-((13 + j : Nat) : Int))) = ((unr ((m + 1024 - widW m) * (10 ^ P * 2 ^ (127 - P * 108853 / 32768))) (128 + K) : Nat) : Int) := by
    rw [eMn, eI, eK, hiT_eq, loT_eq, uscale_exact _ _ _ K (by omega) t1 t2 t3 (by omega) (mul512 (by omega) t5), t4]
  have eMax : uscaleV (sfMax m (-((13 + j : Nat) : Int))) (hiT (sfI m (-((13 + j : Nat) : Int)))) (loT (sfI m (-((13 + j : Nat) : Int)))) (sfK m (-((13 + j : Nat) : Int))) = ((unr ((m + 1024) * (10 ^ P * 2 ^ (127 - P * 108853 / 32768))) (128 + K) : Nat) : Int) := by
    rw [eMx, eI, eK, hiT_eq, loT_eq, uscale_exact _ _ _ K (by omega) t1 t2 t3 (by omega) (mul512 (by omega) t5), t4]
  have ePp : 10 ^ P = 10 ^ p * 10 ^ (P - p) := by rw [← Nat.pow_add]; congr 1; omega
  have eV : x * 10 ^ (P - p) = 10 * (x * 10 ^ (P - 1 - p)) := by
    rw [show P - p = (P - 1 - p) + 1 by omega, Nat.pow_succ, ← Nat.mul_assoc, Nat.mul_comm _ 10]
  have hQ : 0 < 10 ^ (P - p) * 2 ^ (127 - P * 108853 / 32768) := Nat.mul_pos (Nat.pow_pos (by omega)) (Nat.two_pow_pos _)
  have hT : 0 < 2 ^ (127 - P * 108853 / 32768) := Nat.two_pow_pos _
  have hD : ∀ D : Nat, 4 * D * 2 ^ (128 + K) = D * (2 ^ (127 - P * 108853 / 32768) * 2 ^ (13 + j)) := fun D => by
    rw [← hKs, Nat.mul_comm 4 D, Nat.mul_assoc, Nat.mul_comm 4]
  have hA : ∀ y : Nat, y * (10 ^ P * 2 ^ (127 - P * 108853 / 32768)) = y * 10 ^ p * (10 ^ (P - p) * 2 ^ (127 - P * 108853 / 32768)) := fun y => by
    rw [ePp, Nat.mul_assoc (10 ^ p), ← Nat.mul_assoc y]
  have hV : 4 * (x * 10 ^ (P - p)) * 2 ^ (128 + K) = x * 2 ^ (13 + j) * (10 ^ (P - p) * 2 ^ (127 - P * 108853 / 32768)) := by
    rw [hD]
    generalize 10 ^ (P - p) = a
    generalize 2 ^ (127 - P * 108853 / 32768) = b
    generalize 2 ^ (13 + j) = f
    simp only [Nat.mul_comm, Nat.mul_left_comm, Nat.mul_assoc]
  -- the interval's ends against the decimal
  have c1 := Nat.mul_le_mul_right (10 ^ (P - p) * 2 ^ (127 - P * 108853 / 32768)) hlo
  have c2 := Nat.mul_le_mul_right (10 ^ (P - p) * 2 ^ (127 - P * 108853 / 32768)) hhi
  rw [Nat.add_mul, ← hV, ← hA] at c1
  rw [Nat.add_mul, ← hV, ← hA] at c2
  have hL : unr ((m + 1024 - widW m) * (10 ^ P * 2 ^ (127 - P * 108853 / 32768))) (128 + K) + m / 2048 % 2 ≤ 4 * (x * 10 ^ (P - p)) := by
    rcases hodd with h | h
    · rw [h] at c1 ⊢
      exact unr_le (by omega)
    · rw [h] at c1 ⊢
      exact unr_lt (by omega)
  have hH : 4 * (x * 10 ^ (P - p)) + m / 2048 % 2 ≤ unr ((m + 1024) * (10 ^ P * 2 ^ (127 - P * 108853 / 32768))) (128 + K) := by
    rcases hodd with h | h
    · rw [h] at c2 ⊢
      exact le_unr (by omega)
    · rw [h] at c2 ⊢
      exact lt_unr (by omega)
  have hlt : unr ((m + 1024) * (10 ^ P * 2 ^ (127 - P * 108853 / 32768))) (128 + K) / 4 < x * 10 ^ (P - p) + 10 := by
    refine Nat.lt_of_not_le fun hle => ?_
    have f1 := unr_floor ((m + 1024) * (10 ^ P * 2 ^ (127 - P * 108853 / 32768))) (128 + K)
    have f2 : 4 * (x * 10 ^ (P - p) + 10) * 2 ^ (128 + K) ≤ 4 * (unr ((m + 1024) * (10 ^ P * 2 ^ (127 - P * 108853 / 32768))) (128 + K) / 4) * 2 ^ (128 + K) := Nat.mul_le_mul_right _ (Nat.mul_le_mul_left _ hle)
    have f3 : 4 * (x * 10 ^ (P - p) + 10) * 2 ^ (128 + K) = 4 * (x * 10 ^ (P - p)) * 2 ^ (128 + K) + 10 * 2 ^ (13 + j) * 2 ^ (127 - P * 108853 / 32768) := by
      rw [Nat.mul_add, Nat.add_mul, hD 10, Nat.mul_comm (2 ^ (127 - P * 108853 / 32768)), Nat.mul_assoc 10]
    have f4 : (m + 1024) * (10 ^ P * 2 ^ (127 - P * 108853 / 32768)) = (m + 1024 - widW m) * (10 ^ P * 2 ^ (127 - P * 108853 / 32768)) + widW m * 10 ^ P * 2 ^ (127 - P * 108853 / 32768) := by
      rw [Nat.mul_assoc (widW m), ← Nat.add_mul]
      congr 1
      omega
    have f5 : widW m * 10 ^ P * 2 ^ (127 - P * 108853 / 32768) < 10 * 2 ^ (13 + j) * 2 ^ (127 - P * 108853 / 32768) := Nat.mul_lt_mul_of_pos_right hw1 hT
    omega
  have hb : unr ((m + 1024) * (10 ^ P * 2 ^ (127 - P * 108853 / 32768))) (128 + K) < 9223372036854775808 := by
    have e1 : unr ((m + 1024) * (10 ^ P * 2 ^ (127 - P * 108853 / 32768))) (128 + K) ≤ 184467440737095516160 / 32 := by
      refine unr_bound ?_
      have g1 : (m + 1024) * (widW m * 10 ^ P * 2 ^ (127 - P * 108853 / 32768)) < 18446744073709551616 * (10 * 2 ^ (13 + j) * 2 ^ (127 - P * 108853 / 32768)) := by
        refine Nat.mul_lt_mul'' (by omega) (Nat.mul_lt_mul_of_pos_right hw1 hT)
      have g2 : 10 * 2 ^ (13 + j) * 2 ^ (127 - P * 108853 / 32768) = 40 * 2 ^ (128 + K) := by
        rw [Nat.mul_assoc, Nat.mul_comm (2 ^ (13 + j)), ← hKs]
        generalize 2 ^ (128 + K) = z
        omega
      rw [g2] at g1
      have g3 : 1536 * ((m + 1024) * (10 ^ P * 2 ^ (127 - P * 108853 / 32768))) ≤ (m + 1024) * (widW m * 10 ^ P * 2 ^ (127 - P * 108853 / 32768)) := by
        rw [Nat.mul_left_comm]
        refine Nat.mul_le_mul_left _ ?_
        rw [Nat.mul_assoc (widW m)]
        exact Nat.mul_le_mul_right _ (by omega)
      generalize (m + 1024) * (10 ^ P * 2 ^ (127 - P * 108853 / 32768)) = A at *
      generalize 2 ^ (128 + K) = z at *
      omega
    omega
  have eLo : sfLo hiT loT m (-((13 + j : Nat) : Int)) = (((unr ((m + 1024 - widW m) * (10 ^ P * 2 ^ (127 - P * 108853 / 32768))) (128 + K) + m / 2048 % 2 + 3) / 4 : Nat) : Int) := by
    unfold sfLo
    rw [eMin, eO]
    rw [u64id (n := (unr ((m + 1024 - widW m) * (10 ^ P * 2 ^ (127 - P * 108853 / 32768))) (128 + K) : Nat) + ((m / 2048 % 2 : Nat) : Int)) (by omega) (by omega), u64id (by omega) (by omega)]
    omega
  have eHi : sfHi hiT loT m (-((13 + j : Nat) : Int)) = (((unr ((m + 1024) * (10 ^ P * 2 ^ (127 - P * 108853 / 32768))) (128 + K) - m / 2048 % 2) / 4 : Nat) : Int) := by
    unfold sfHi
    rw [eMax, eO, u64id (by omega) (by omega)]
    omega
  have hdv : (unr ((m + 1024) * (10 ^ P * 2 ^ (127 - P * 108853 / 32768))) (128 + K) - m / 2048 % 2) / 4 / 10 = x * 10 ^ (P - 1 - p) := by
    rw [eV] at hlt hH
    generalize unr ((m + 1024) * (10 ^ P * 2 ^ (127 - P * 108853 / 32768))) (128 + K) = u at *
    omega
  refine ⟨by rw [← hdv]; omega, ?_⟩
  unfold sfV
  rw [eLo, eHi, hP]
  rw [show (((unr ((m + 1024) * (10 ^ P * 2 ^ (127 - P * 108853 / 32768))) (128 + K) - m / 2048 % 2) / 4 : Nat) : Int) / 10 = (((unr ((m + 1024) * (10 ^ P * 2 ^ (127 - P * 108853 / 32768))) (128 + K) - m / 2048 % 2) / 4 / 10 : Nat) : Int) by simp, hdv]
  rw [if_pos (by
    rw [eV] at hL
    generalize x * 10 ^ (P - 1 - p) = v at *
    omega)]

end Go.Proofs.YtpbcfgehmalppaaDoor
