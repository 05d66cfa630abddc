/- The float64 nearest to a decimal of at most 15 digits: its parts, and how near it lies. -/
import Derived.Test.YtpbcfgehmalppaaDoorDcC
namespace Go.Proofs.YtpbcfgehmalppaaDoor
open Go.RowKit Ieee

theorem bitLen53 {k : Nat} (h0 : 4503599627370496 ≤ k) (h1 : k < 9007199254740992) : Lib.bitLen k = 53 := by
  obtain ⟨a, b⟩ := bitLen_spec' k (by omega)
  obtain ⟨c, d⟩ := b (by omega)
  have h2 : Lib.bitLen k ≤ 53 := by
    refine Nat.le_of_not_lt fun h => ?_
    have : 2 ^ 53 ≤ 2 ^ (Lib.bitLen k - 1) := Nat.pow_le_pow_right (by omega) (by omega)
    omega
  have h3 : 53 ≤ Lib.bitLen k := by
    refine Nat.le_of_not_lt fun h => ?_
    have : 2 ^ Lib.bitLen k ≤ 2 ^ 52 := Nat.pow_le_pow_right (by omega) (by omega)
    omega
  omega

/-- A float64's parts, out of its rung. -/
theorem fields_word (s : Bool) (T k : Nat) (h0 : 4503599627370496 ≤ k) (h1 : k < 9007199254740992) (hT : T < 2000) :
    double.word s (T * 4503599627370496 + k) < 18446744073709551616 ∧ sgn (double.word s (T * 4503599627370496 + k)) = s ∧ xpo (double.word s (T * 4503599627370496 + k)) = T + 1 ∧ mant (double.word s (T * 4503599627370496 + k)) = k ∧
    expo (double.word s (T * 4503599627370496 + k)) = (T : Int) - 1022 := by
  have hsw : double.signWeight = 9223372036854775808 := by decide
  have hw : double.word s (T * 4503599627370496 + k) = (if s = true then 9223372036854775808 else 0) + (T * 4503599627370496 + k) := by
    unfold Format.word
    rw [hsw]
    cases s <;> simp
  rw [hw]
  have ex : xpo ((if s = true then 9223372036854775808 else 0) + (T * 4503599627370496 + k)) = T + 1 := by
    unfold xpo
    cases s <;> simp <;> omega
  have em : mts ((if s = true then 9223372036854775808 else 0) + (T * 4503599627370496 + k)) = k - 4503599627370496 := by
    unfold mts
    cases s <;> simp <;> omega
  refine ⟨by cases s <;> simp <;> omega, ?_, ex, ?_, ?_⟩
  · unfold sgn
    cases s
    · exact decide_eq_false (by simp; omega)
    · exact decide_eq_true (by simp)
  · unfold mant
    rw [ex, em, if_neg (by omega)]
    omega
  · unfold expo
    rw [ex, if_neg (by omega)]
    omega

theorem rd_int (x : Int) (X L : Nat) (hX : x.natAbs = X) (h0 : 2 ^ L ≤ X) (h1 : X < 2 ^ (L + 1)) (hL : L ≤ 52) :
    double.read (floatOfInt .f64 x) = .number (decide (x < 0)) (X * 2 ^ (52 - L)) ((L : Int) - 52) ∧ 4503599627370496 ≤ X * 2 ^ (52 - L) ∧ X * 2 ^ (52 - L) < 9007199254740992 := by
  have b0 : 4503599627370496 ≤ X * 2 ^ (52 - L) := by
    have : 2 ^ L * 2 ^ (52 - L) ≤ X * 2 ^ (52 - L) := Nat.mul_le_mul_right _ h0
    rw [← Nat.pow_add, show L + (52 - L) = 52 by omega] at this
    exact this
  have b1 : X * 2 ^ (52 - L) < 9007199254740992 := by
    have : X * 2 ^ (52 - L) < 2 ^ (L + 1) * 2 ^ (52 - L) := Nat.mul_lt_mul_of_pos_right h1 (Nat.two_pow_pos _)
    rw [← Nat.pow_add, show L + 1 + (52 - L) = 53 by omega] at this
    exact this
  refine ⟨?_, b0, b1⟩
  have e : floatOfInt .f64 x = double.nearest (decide (x < 0)) X 0 := by rw [← hX]; rfl
  rw [e, near_int _ X L h0 h1 hL, read_word _ _ _ b0 b1 (by omega)]
  congr 1
  omega

theorem quo_at {s t : Bool} {m n : Nat} {i j : Int} (h0 : 4503599627370496 ≤ m) (h1 : m < 9007199254740992) (h2 : 4503599627370496 ≤ n) (h3 : n < 9007199254740992) :
    Datum.quotient 54 (.number s m i) (.number t n j) = some (.number (s ^^ t) (2 * (m * 18014398509481984 / n) + (m * 18014398509481984 % n != 0).toNat) (i - j - 54 - 1)) := by
  have l1 : m.log2 = 52 := log2_of h0 h1
  have l2 : n.log2 = 52 := log2_of h2 h3
  have hn : n ≠ 0 := by omega
  simp only [Datum.quotient, if_neg hn, l1, l2, Nat.shiftLeft_eq, Nat.reduceAdd, Nat.reduceSub, Nat.reducePow]
  rfl


theorem scale_facts {k low u Y N W c : Nat} (hc : 0 < c) (hconv : 2048 * N = Y * c) (hy : ∀ y, y * W = y * u * c) (k1 : 2 * (k * W) ≤ 2 * N + W) (k2 : k % 2 = 1 → 2 * (k * W) < 2 * N + W)
    (k3 : 2 * N ≤ 2 * (k * W) + W) (k4 : k % 2 = 1 → 2 * N < 2 * (k * W) + W) (k5 : 2 * (low * W) ≤ 2 * N) :
    (2048 * k - 1024) * u ≤ Y ∧ (k % 2 = 1 → (2048 * k - 1024) * u < Y) ∧ Y ≤ (2048 * k + 1024) * u ∧ (k % 2 = 1 → Y < (2048 * k + 1024) * u) ∧ 2048 * low * u ≤ Y := by
  refine ⟨?_, fun h => ?_, ?_, fun h => ?_, ?_⟩
  · refine Nat.le_of_mul_le_mul_right ?_ hc
    rw [← hconv, ← hy, Nat.sub_mul, Nat.mul_assoc]
    omega
  · have := k2 h
    have hkW : 1 * W ≤ k * W := Nat.mul_le_mul_right _ (by omega)
    refine Nat.lt_of_mul_lt_mul_right (a := c) ?_
    rw [← hconv, ← hy, Nat.sub_mul, Nat.mul_assoc]
    omega
  · refine Nat.le_of_mul_le_mul_right ?_ hc
    rw [← hconv, ← hy, Nat.add_mul, Nat.mul_assoc]
    omega
  · have := k4 h
    refine Nat.lt_of_mul_lt_mul_right (a := c) ?_
    rw [← hconv, ← hy, Nat.add_mul, Nat.mul_assoc]
    omega
  · refine Nat.le_of_mul_le_mul_right ?_ hc
    rw [← hconv, ← hy, Nat.mul_assoc]
    omega

set_option maxRecDepth 100000 in
/-- The quotient of two whole numbers as floats: its float's parts, and between which decimals it lies. -/
theorem quo_spec (x : Int) (X u : Nat) (hX : x.natAbs = X) (hx0 : 0 < X) (hx1 : X < 1000000000000000) (hu0 : 0 < u) (hu1 : u ≤ 1000000000000000) :
    ∃ b j m : Nat, floatBits .quo .f64 (floatOfInt .f64 x) (floatOfInt .f64 (u : Int)) = some b ∧ b < 18446744073709551616 ∧ sgn b = decide (x < 0) ∧ xpo b ≠ 2047 ∧ mant b ≠ 0 ∧ j < 101 ∧
      9223372036854775808 ≤ m ∧ m < 18446744073709551616 ∧ m % 2048 = 0 ∧ IntKind.u64.wrap ((mant b : Int) * 2 ^ (64 - Lib.bitLen (mant b))) = (m : Int) ∧ expo b - ((64 - Lib.bitLen (mant b) : Nat) : Int) - 52 = -((13 + j : Nat) : Int) ∧
      (m + 1024 - widW m) * u + m / 2048 % 2 ≤ X * 2 ^ (13 + j) ∧ X * 2 ^ (13 + j) + m / 2048 % 2 ≤ (m + 1024) * u := by
  obtain ⟨a0, a1⟩ := log2_self (show X ≠ 0 by omega)
  obtain ⟨c0, c1⟩ := log2_self (show u ≠ 0 by omega)
  generalize X.log2 = L at *
  generalize u.log2 = M at *
  have hL : L ≤ 49 := by
    refine Nat.le_of_not_lt fun h => ?_
    have : 2 ^ 50 ≤ 2 ^ L := Nat.pow_le_pow_right (by omega) h
    omega
  have hM : M ≤ 49 := by
    refine Nat.le_of_not_lt fun h => ?_
    have : 2 ^ 50 ≤ 2 ^ M := Nat.pow_le_pow_right (by omega) h
    omega
  obtain ⟨r1, m0, m1⟩ := rd_int x X L hX a0 a1 (by omega)
  obtain ⟨r2, n0, n1⟩ := rd_int (u : Int) u M (by simp) c0 c1 (by omega)
  have hB := Nat.two_pow_pos (52 - M)
  have hA := Nat.two_pow_pos (52 - L)
  -- the quotient's digits
  have hq : floatBits .quo .f64 (floatOfInt .f64 x) (floatOfInt .f64 (u : Int)) = some (double.nearest (decide (x < 0)) (2 * (X * 2 ^ (52 - L) * 18014398509481984 / (u * 2 ^ (52 - M))) + (X * 2 ^ (52 - L) * 18014398509481984 % (u * 2 ^ (52 - M)) != 0).toNat) ((L : Int) - M - 55)) := by
    have e : floatBits .quo .f64 (floatOfInt .f64 x) (floatOfInt .f64 (u : Int)) = ((double.read (floatOfInt .f64 x)).quotient 54 (double.read (floatOfInt .f64 (u : Int)))).map double.write := rfl
    rw [e, r1, r2, quo_at m0 m1 n0 n1]
    have e2 : (decide (x < 0) ^^ decide ((u : Int) < 0)) = decide (x < 0) := by
      rw [decide_eq_false (show ¬ ((u : Int) < 0) by omega), Bool.xor_false]
    rw [e2, show ((L : Int) - 52 - ((M : Int) - 52) - 54 - 1) = (L : Int) - M - 55 by omega]
    rfl
  rw [hq]
  clear hq r1 r2
  have hdm := Nat.div_add_mod (X * 2 ^ (52 - L) * 18014398509481984) (u * 2 ^ (52 - M))
  have hml := Nat.mod_lt (X * 2 ^ (52 - L) * 18014398509481984) (show 0 < u * 2 ^ (52 - M) by omega)
  have hq0 : 9007199254740992 ≤ X * 2 ^ (52 - L) * 18014398509481984 / (u * 2 ^ (52 - M)) := (Nat.le_div_iff_mul_le (by omega)).2 (by omega)
  have hq1 : X * 2 ^ (52 - L) * 18014398509481984 / (u * 2 ^ (52 - M)) < 36028797018963968 := Nat.div_lt_of_lt_mul (by omega)
  rw [Nat.mul_comm (u * 2 ^ (52 - M))] at hdm
  generalize hqq : X * 2 ^ (52 - L) * 18014398509481984 / (u * 2 ^ (52 - M)) = q at *
  generalize hrr : X * 2 ^ (52 - L) * 18014398509481984 % (u * 2 ^ (52 - M)) = r at *
  obtain ⟨st, hst, hst2⟩ : ∃ st, (r != 0).toNat = st ∧ st = if r = 0 then 0 else 1 := ⟨_, rfl, by
    by_cases h : r = 0
    · rw [h]; rfl
    · rw [if_neg h, bne_iff_ne.2 h]; rfl⟩
  rw [hst]
  have hst1 : st ≤ 1 := by rw [hst2]; split <;> omega
  obtain ⟨d, hd0, hd1, g0, g1⟩ : ∃ d, 1 ≤ d ∧ d ≤ 2 ∧ 2 ^ (52 + (d + 1)) ≤ 2 * q + st ∧ 2 * q + st < 2 ^ (52 + (d + 1) + 1) := by
    by_cases h : 2 * q + st < 36028797018963968
    · exact ⟨1, by omega, by omega, by omega, by omega⟩
    · exact ⟨2, by omega, by omega, by omega, by omega⟩
  obtain ⟨k, rest, low, hmag, hrest, hlow, hk1, hk, hnear⟩ := near_drop (decide (x < 0)) (2 * q + st) (d + 1) ((L : Int) - M - 55) g0 g1 (by omega) (by omega) (by omega)
  have hGG : 2 ^ (d + 1) = 2 * 2 ^ d := by rw [Nat.pow_succ, Nat.mul_comm]
  rw [hGG] at hmag hrest hk
  have hG2 : 2 ≤ 2 ^ d ∧ 2 ^ d % 2 = 0 := by rcases (show d = 1 ∨ d = 2 by omega) with rfl | rfl <;> simp
  obtain ⟨k1, k2, k3, k4, k5⟩ := cut_near (show 0 < u * 2 ^ (52 - M) by omega) hml hG2.1 hG2.2 hst2 hmag hrest hk
  rw [hdm] at k1 k2 k3 k4 k5
  -- out of the scaled inequalities
  obtain ⟨E, hE⟩ : ∃ E, E + L + d = 65 + M := ⟨65 + M - L - d, by omega⟩
  have hrel : 2 ^ E * (2 ^ (52 - M) * 2 ^ d) = 36893488147419103232 * 2 ^ (52 - L) := by
    rw [show (36893488147419103232 : Nat) = 2 ^ 65 by decide, ← Nat.pow_add, ← Nat.pow_add, ← Nat.pow_add]
    congr 1
    omega
  have hBG : 0 < 2 ^ (52 - M) * 2 ^ d := Nat.mul_pos hB (Nat.two_pow_pos d)
  have hconv : 2048 * (X * 2 ^ (52 - L) * 18014398509481984) = X * 2 ^ E * (2 ^ (52 - M) * 2 ^ d) := by
    rw [Nat.mul_assoc X (2 ^ E), hrel, Nat.mul_assoc X, Nat.mul_left_comm 2048 X]
    congr 1
    omega
  have hy : ∀ y, y * (2 ^ d * (u * 2 ^ (52 - M))) = y * u * (2 ^ (52 - M) * 2 ^ d) := fun y => by
    rw [Nat.mul_assoc y u, Nat.mul_comm (2 ^ d), Nat.mul_assoc u]
  obtain ⟨f1, f2, f3, f4, f5⟩ := scale_facts hBG hconv hy k1 k2 k3 k4 k5
  have hlk : low ≤ k := by rw [hk]; omega
  clear k1 k2 k3 k4 k5 hconv hy hrel hmag hrest hqq hrr hdm hml hq0 hq1 g0 g1 m0 m1 n0 n1
  have hT : ((L : Int) - M - 55 + ((d + 1 : Nat) : Int) + 1074).toNat = L + d + 1020 - M := by omega
  rw [hT] at hnear
  by_cases hk53 : k = 9007199254740992
  · obtain ⟨b1, b2, b3, b4, b5⟩ := fields_word (decide (x < 0)) (L + d + 1020 - M + 1) 4503599627370496 (by omega) (by omega) (by omega)
    have eb : (L + d + 1020 - M) * 4503599627370496 + k = (L + d + 1020 - M + 1) * 4503599627370496 + 4503599627370496 := by omega
    rw [eb] at hnear
    obtain ⟨E', rfl⟩ : ∃ E', E = E' + 1 := ⟨E - 1, by omega⟩
    rw [Nat.pow_succ, ← Nat.mul_assoc] at f1 f3
    refine ⟨_, E' - 13, 9223372036854775808, by rw [hnear], b1, b2, by rw [b3]; omega, by rw [b4]; omega, by omega, by omega, by omega, by decide, ?_, ?_, ?_, ?_⟩
    · rw [b4, bitLen53 (by omega) (by omega)]; rfl
    · rw [b4, b5, bitLen53 (by omega) (by omega)]; omega
    · rw [show 13 + (E' - 13) = E' by omega, show widW 9223372036854775808 = 1536 from rfl]
      rw [hk53] at f1
      omega
    · rw [show 13 + (E' - 13) = E' by omega]
      rw [hk53] at f3
      omega
  · obtain ⟨b1, b2, b3, b4, b5⟩ := fields_word (decide (x < 0)) (L + d + 1020 - M) k (by omega) (by omega) (by omega)
    have hkb : Lib.bitLen k = 53 := bitLen53 (by omega) (by omega)
    refine ⟨_, E - 13, 2048 * k, by rw [hnear], b1, b2, by rw [b3]; omega, by rw [b4]; omega, by omega, by omega, by omega, by omega, ?_, ?_, ?_, ?_⟩
    · rw [b4, hkb, u64w0]
      show ((k : Int) * 2048) % _ = _
      omega
    · rw [b4, b5, hkb]; omega
    · rw [show 13 + (E - 13) = E by omega, show 2048 * k / 2048 = k by omega]
      by_cases hk0 : k = 4503599627370496
      · have : low = k := by omega
        rw [this] at f5
        rw [show widW (2048 * k) = 1536 by rw [hk0]; rfl]
        have h6 : (2048 * k + 1024 - 1536) * u ≤ 2048 * k * u := Nat.mul_le_mul_right _ (by omega)
        omega
      · rw [show widW (2048 * k) = 2048 by unfold widW; rw [if_neg (by omega)], show 2048 * k + 1024 - 2048 = 2048 * k - 1024 by omega]
        rcases (show k % 2 = 0 ∨ k % 2 = 1 by omega) with h | h
        · omega
        · have := f2 h
          omega
    · rw [show 13 + (E - 13) = E by omega, show 2048 * k / 2048 = k by omega]
      rcases (show k % 2 = 0 ∨ k % 2 = 1 by omega) with h | h
      · omega
      · have := f4 h
        omega

end Go.Proofs.YtpbcfgehmalppaaDoor
