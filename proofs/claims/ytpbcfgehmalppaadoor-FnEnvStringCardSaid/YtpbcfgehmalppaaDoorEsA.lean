/- The order of finite float64s: by a whole number each; two that are equal are the same bits, but for a zero's sign. -/
import Derived.Test.YtpbcfgehmalppaaDoorDcC
namespace Go.Proofs.YtpbcfgehmalppaaDoor
open Go.RowKit Ieee

/-- The word of a finite float64. -/
def Fin64 (b : Nat) : Prop := b < 18446744073709551616 ∧ b % 9223372036854775808 < 9218868437227405312
/-- A rung's magnitude, in units of the least one. -/
def mgn (r : Nat) : Nat := if r < 4503599627370496 then r else (4503599627370496 + r % 4503599627370496) * 2 ^ (r / 4503599627370496 - 1)
/-- A finite float64, in units of the least one. -/
def fV (b : Nat) : Int := if b < 9223372036854775808 then (mgn (b % 9223372036854775808) : Int) else -(mgn (b % 9223372036854775808) : Int)

theorem mgn_inj {r s : Nat} (h : mgn r = mgn s) : r = s := by
  have key : ∀ r : Nat, ¬ r < 4503599627370496 → (mgn r).log2 = 52 + (r / 4503599627370496 - 1) ∧ 4503599627370496 ≤ mgn r := fun r hr => by
    have hP := Nat.two_pow_pos (r / 4503599627370496 - 1)
    have h0 : 4503599627370496 * 2 ^ (r / 4503599627370496 - 1) ≤ mgn r := by
      unfold mgn
      rw [if_neg hr]
      exact Nat.mul_le_mul_right _ (by omega)
    have h1 : mgn r < 9007199254740992 * 2 ^ (r / 4503599627370496 - 1) := by
      unfold mgn
      rw [if_neg hr]
      exact Nat.mul_lt_mul_of_pos_right (by omega) hP
    refine ⟨log2_of ?_ ?_, Nat.le_trans ?_ h0⟩
    · rw [Nat.pow_add]; exact h0
    · rw [show 52 + (r / 4503599627370496 - 1) + 1 = 53 + (r / 4503599627370496 - 1) by omega, Nat.pow_add]; exact h1
    · exact Nat.le_mul_of_pos_right _ hP
  by_cases hr : r < 4503599627370496
  · by_cases hs : s < 4503599627370496
    · unfold mgn at h
      rw [if_pos hr, if_pos hs] at h
      exact h
    · have h2 := (key s hs).2
      rw [← h] at h2
      unfold mgn at h2
      rw [if_pos hr] at h2
      omega
  · by_cases hs : s < 4503599627370496
    · have h2 := (key r hr).2
      rw [h] at h2
      unfold mgn at h2
      rw [if_pos hs] at h2
      omega
    · have a := (key r hr).1
      have b := (key s hs).1
      rw [h, b] at a
      have he : r / 4503599627370496 - 1 = s / 4503599627370496 - 1 := by omega
      unfold mgn at h
      rw [if_neg hr, if_neg hs, he] at h
      have := Nat.eq_of_mul_eq_mul_right (Nat.two_pow_pos _) h
      omega

/-- Two finite float64s, none of them -0, with one value are one. -/
theorem fV_inj {a b : Nat} (ha : Fin64 a) (hb : Fin64 b) (na : a ≠ 9223372036854775808) (nb : b ≠ 9223372036854775808) (h : fV a = fV b) : a = b := by
  obtain ⟨a1, a2⟩ := ha
  obtain ⟨b1, b2⟩ := hb
  have z : ∀ r, mgn r = 0 → r = 0 := fun r hr => mgn_inj (r := r) (s := 0) (by rw [hr]; rfl)
  unfold fV at h
  by_cases ca : a < 9223372036854775808
  · by_cases cb : b < 9223372036854775808
    · rw [if_pos ca, if_pos cb] at h
      have := mgn_inj (Int.ofNat.inj h)
      omega
    · rw [if_pos ca, if_neg cb] at h
      have := z (b % 9223372036854775808) (by omega)
      omega
  · by_cases cb : b < 9223372036854775808
    · rw [if_neg ca, if_pos cb] at h
      have := z (a % 9223372036854775808) (by omega)
      omega
    · rw [if_neg ca, if_neg cb] at h
      have := mgn_inj (r := a % 9223372036854775808) (s := b % 9223372036854775808) (by omega)
      omega

theorem read_fin {b : Nat} (h : Fin64 b) : ∃ (m e : Nat), double.read b = .number (decide (9223372036854775808 ≤ b)) m ((e : Int) - 1074) ∧ m * 2 ^ e = mgn (b % 9223372036854775808) := by
  obtain ⟨h1, h2⟩ := h
  have hsw : double.signWeight = 9223372036854775808 := by decide
  have hlp : double.leastPlace = -1074 := by decide
  have hbi : double.binade = 4503599627370496 := by decide
  have hin : double.infRung = 9218868437227405312 := by decide
  have hs : (b / 9223372036854775808 % 2 == 1) = decide (9223372036854775808 ≤ b) := by
    by_cases c : 9223372036854775808 ≤ b
    · rw [decide_eq_true c, show b / 9223372036854775808 % 2 = 1 by omega]; rfl
    · rw [decide_eq_false c, show b / 9223372036854775808 % 2 = 0 by omega]; rfl
  unfold Format.read
  simp only [hsw, hlp, hbi, hin, hs]
  generalize b % 9223372036854775808 = r at *
  unfold mgn
  by_cases hr : r < 4503599627370496
  · rw [if_pos hr, if_pos hr]
    exact ⟨r, 0, rfl, by rw [Nat.pow_zero, Nat.mul_one]⟩
  · rw [if_neg hr, if_pos h2, if_neg hr]
    refine ⟨_, r / 4503599627370496 - 1, ?_, rfl⟩
    have : (-1074 : Int) + ((r / 4503599627370496 - 1 : Nat) : Int) = ((r / 4503599627370496 - 1 : Nat) : Int) - 1074 := by omega
    rw [this]

theorem signed_eq (s : Bool) (m k : Nat) : signed s m k = if s = true then -((m * 2 ^ k : Nat) : Int) else ((m * 2 ^ k : Nat) : Int) := by
  unfold signed
  rw [Nat.shiftLeft_eq]

theorem cmp_int (x y : Int) : compare x y = if x < y then .lt else if x = y then .eq else .gt := rfl
theorem compare_lt_iff_lt {x y : Int} : compare x y = .lt ↔ x < y := by rw [cmp_int]; split <;> (try split) <;> simp_all
theorem compare_eq_iff_eq {x y : Int} : compare x y = .eq ↔ x = y := by rw [cmp_int]; split <;> (try split) <;> simp_all; omega
theorem compare_gt_iff_gt {x y : Int} : compare x y = .gt ↔ y < x := by rw [cmp_int]; split <;> (try split) <;> simp_all <;> omega

theorem compare_scale (x y : Int) (k : Nat) : compare (x * ((2 ^ k : Nat) : Int)) (y * ((2 ^ k : Nat) : Int)) = compare x y := by
  have hp : (0 : Int) < ((2 ^ k : Nat) : Int) := by have := Nat.two_pow_pos k; omega
  rcases Int.lt_trichotomy x y with h | h | h
  · rw [compare_lt_iff_lt.2 h, compare_lt_iff_lt.2 (Int.mul_lt_mul_of_pos_right h hp)]
  · rw [h, compare_eq_iff_eq.2 rfl, compare_eq_iff_eq.2 rfl]
  · rw [compare_gt_iff_gt.2 h, compare_gt_iff_gt.2 (Int.mul_lt_mul_of_pos_right h hp)]

/-- Finite float64s are in the order of their values. -/
theorem order_fin {a b : Nat} (ha : Fin64 a) (hb : Fin64 b) : double.order a b = some (compare (fV a) (fV b)) := by
  obtain ⟨m, i, ra, ma⟩ := read_fin ha
  obtain ⟨n, j, rb, mb⟩ := read_fin hb
  unfold Format.order
  rw [ra, rb]
  show some (compare (signed _ m (((i : Int) - 1074) - min ((i : Int) - 1074) ((j : Int) - 1074)).toNat) (signed _ n (((j : Int) - 1074) - min ((i : Int) - 1074) ((j : Int) - 1074)).toNat)) = _
  obtain ⟨k, hk⟩ : ∃ k : Nat, k = min i j := ⟨_, rfl⟩
  have e1 : (((i : Int) - 1074) - min ((i : Int) - 1074) ((j : Int) - 1074)).toNat = i - k := by omega
  have e2 : (((j : Int) - 1074) - min ((i : Int) - 1074) ((j : Int) - 1074)).toNat = j - k := by omega
  rw [e1, e2]
  congr 1
  rw [← compare_scale (signed _ m (i - k)) (signed _ n (j - k)) k]
  have key : ∀ (b m e : Nat), k ≤ e → m * 2 ^ e = mgn (b % 9223372036854775808) → signed (decide (9223372036854775808 ≤ b)) m (e - k) * ((2 ^ k : Nat) : Int) = fV b := fun b m e he hm => by
    have h2 : m * 2 ^ (e - k) * 2 ^ k = mgn (b % 9223372036854775808) := by
      rw [Nat.mul_assoc, ← Nat.pow_add, show e - k + k = e by omega, hm]
    rw [signed_eq]
    unfold fV
    by_cases c : 9223372036854775808 ≤ b
    · rw [decide_eq_true c, if_pos rfl, if_neg (by omega), Int.neg_mul, ← Int.natCast_mul, h2]
    · rw [decide_eq_false c, if_neg (by decide), if_pos (by omega), ← Int.natCast_mul, h2]
  rw [key a m i (by omega) ma, key b n j (by omega) mb]

def flt (a b : Nat) : Bool := FloatKind.f64.format.order a b == some .lt
def fgt (a b : Nat) : Bool := FloatKind.f64.format.order a b == some .gt
def feq (a b : Nat) : Bool := FloatKind.f64.format.order a b == some .eq
theorem fcmp_eql (t : TypeId) (a b : Nat) : binOp .eql t (.float .f64 a) (.float .f64 b) = pure (.bool (feq a b)) := binOp_float_cmp_eql t .f64 a b
theorem fcmp_neq (t : TypeId) (a b : Nat) : binOp .neq t (.float .f64 a) (.float .f64 b) = pure (.bool (!feq a b)) := binOp_float_cmp_neq t .f64 a b
theorem fcmp_lss (t : TypeId) (a b : Nat) : binOp .lss t (.float .f64 a) (.float .f64 b) = pure (.bool (flt a b)) := binOp_float_cmp_lss t .f64 a b
theorem fcmp_gtr (t : TypeId) (a b : Nat) : binOp .gtr t (.float .f64 a) (.float .f64 b) = pure (.bool (fgt a b)) := binOp_float_cmp_gtr t .f64 a b

theorem ord_some (o p : Ordering) : (some o == some p) = decide (o = p) := by cases o <;> cases p <;> rfl
theorem flt_fin {a b : Nat} (ha : Fin64 a) (hb : Fin64 b) : flt a b = decide (fV a < fV b) := by
  have h : FloatKind.f64.format.order a b = some (compare (fV a) (fV b)) := order_fin ha hb
  unfold flt
  rw [h, ord_some]
  congr 1
  exact propext compare_lt_iff_lt
theorem fgt_fin {a b : Nat} (ha : Fin64 a) (hb : Fin64 b) : fgt a b = decide (fV b < fV a) := by
  have h : FloatKind.f64.format.order a b = some (compare (fV a) (fV b)) := order_fin ha hb
  unfold fgt
  rw [h, ord_some]
  congr 1
  exact propext compare_gt_iff_gt
theorem feq_fin {a b : Nat} (ha : Fin64 a) (hb : Fin64 b) : feq a b = decide (fV a = fV b) := by
  have h : FloatKind.f64.format.order a b = some (compare (fV a) (fV b)) := order_fin ha hb
  unfold feq
  rw [h, ord_some]
  congr 1
  exact propext compare_eq_iff_eq

/-- The less of two finite numbers, the greater. -/
def fMin (a b : Nat) : Nat := if fV b < fV a then b else a
def fMax (a b : Nat) : Nat := if fV a < fV b then b else a
theorem fMin_alt {a b : Nat} (ha : Fin64 a) (hb : Fin64 b) (na : a ≠ 9223372036854775808) (nb : b ≠ 9223372036854775808) : fMin a b = if fV a < fV b then a else b := by
  unfold fMin
  rcases Int.lt_trichotomy (fV a) (fV b) with h | h | h
  · rw [if_pos h, if_neg (by omega)]
  · rw [fV_inj ha hb na nb h]
  · rw [if_pos h, if_neg (by omega)]
theorem fMax_alt {a b : Nat} (ha : Fin64 a) (hb : Fin64 b) (na : a ≠ 9223372036854775808) (nb : b ≠ 9223372036854775808) : fMax a b = if fV b < fV a then a else b := by
  unfold fMax
  rcases Int.lt_trichotomy (fV a) (fV b) with h | h | h
  · rw [if_pos h, if_neg (by omega)]
  · rw [fV_inj ha hb na nb h]
  · rw [if_pos h, if_neg (by omega)]

end Go.Proofs.YtpbcfgehmalppaaDoor
