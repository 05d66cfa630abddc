/- A whole number as a float64, and the quotient of two such: which float64 it is, and how near it lies. -/
import Derived.Test.YtpbcfgehmalppaaDoorDcB
import Derived.Laws.FloatArith
namespace Go.Proofs.YtpbcfgehmalppaaDoor
open Go.RowKit Ieee

theorem log2_of {m L : Nat} (h0 : 2 ^ L ≤ m) (h1 : m < 2 ^ (L + 1)) : m.log2 = L := by
  have hm : m ≠ 0 := by have := Nat.two_pow_pos L; omega
  have a := (Nat.le_log2 hm).2 h0
  have b := (Nat.log2_lt hm).2 h1
  omega
theorem log2_self {m : Nat} (h : m ≠ 0) : 2 ^ m.log2 ≤ m ∧ m < 2 ^ (m.log2 + 1) := ⟨Nat.log2_self_le h, Nat.lt_log2_self⟩

theorem cut_zero (neg : Bool) (n : Nat) : Toward.even.cut neg n 0 = n := by
  unfold Toward.cut
  simp [Nat.mod_one]

theorem near_int (neg : Bool) (n L : Nat) (h0 : 2 ^ L ≤ n) (h1 : n < 2 ^ (L + 1)) (hL : L ≤ 52) : double.nearest neg n 0 = double.word neg ((1022 + L) * 4503599627370496 + n * 2 ^ (52 - L)) := by
  have hn : n ≠ 0 := by have := Nat.two_pow_pos L; omega
  have hl := log2_of h0 h1
  have hb : n * 2 ^ (52 - L) < 9007199254740992 := by
    have : n * 2 ^ (52 - L) < 2 ^ (L + 1) * 2 ^ (52 - L) := Nat.mul_lt_mul_of_pos_right h1 (Nat.two_pow_pos _)
    rw [← Nat.pow_add, show L + 1 + (52 - L) = 53 by omega] at this
    exact this
  unfold Format.nearest
  rw [if_neg hn, hl]
  have hlp : double.leastPlace = -1074 := by decide
  have hbi : double.binade = 4503599627370496 := by decide
  have hin : double.infRung = 9218868437227405312 := by decide
  have hfb : ((double.fractionBits : Nat) : Int) = 52 := rfl
  simp only [hlp, hbi, hin, hfb]
  have hmx : max (0 + (L : Int) - 52) (-1074) = (L : Int) - 52 := by omega
  rw [hmx, show ((0 : Int) - ((L : Int) - 52)).toNat = 52 - L by omega, show (((L : Int) - 52) - 0).toNat = 0 by omega, cut_zero, Nat.shiftLeft_eq, show ((L : Int) - 52 - -1074).toNat = 1022 + L by omega]
  rw [Nat.min_eq_left (by omega)]

theorem read_word (neg : Bool) (E k : Nat) (h0 : 4503599627370496 ≤ k) (h1 : k < 9007199254740992) (hE : E < 2045) :
    double.read (double.word neg (E * 4503599627370496 + k)) = .number neg k ((E : Int) - 1074) := by
  have hsw : double.signWeight = 9223372036854775808 := by decide
  have hlp : double.leastPlace = -1074 := by decide
  have hbi : double.binade = 4503599627370496 := by decide
  have hin : double.infRung = 9218868437227405312 := by decide
  have hw : double.word neg (E * 4503599627370496 + k) = (if neg = true then 9223372036854775808 else 0) + (E * 4503599627370496 + k) := by
    unfold Format.word
    rw [hsw]
    cases neg <;> simp
  unfold Format.read
  simp only [hsw, hlp, hbi, hin, hw]
  have e1 : ((if neg = true then 9223372036854775808 else 0) + (E * 4503599627370496 + k)) % 9223372036854775808 = E * 4503599627370496 + k := by cases neg <;> simp <;> omega
  have e2 : (((if neg = true then 9223372036854775808 else 0) + (E * 4503599627370496 + k)) / 9223372036854775808 % 2 == 1) = neg := by
    cases neg
    · have : ((if false = true then 9223372036854775808 else 0) + (E * 4503599627370496 + k)) / 9223372036854775808 % 2 = 0 := by simp; omega
      rw [this]; rfl
    · have : ((if true = true then 9223372036854775808 else 0) + (E * 4503599627370496 + k)) / 9223372036854775808 % 2 = 1 := by simp; omega
      rw [this]; rfl
  have e3 : 4503599627370496 + (E * 4503599627370496 + k) % 4503599627370496 = k := by omega
  have e4 : (-1074 : Int) + (((E * 4503599627370496 + k) / 4503599627370496 - 1 : Nat) : Int) = (E : Int) - 1074 := by omega
  rw [e1, e2, if_neg (by omega), if_pos (by omega), e3, e4]

theorem rung_le {T kk : Nat} (hT : T ≤ 1982) (hk : kk ≤ 9007199254740992) : T * 4503599627370496 + kk ≤ 9218868437227405312 := by omega

/-- Which rung a nearest float64 is on, where something is dropped. -/
theorem near_drop (neg : Bool) (mag d : Nat) (place : Int) (h0 : 2 ^ (52 + d) ≤ mag) (h1 : mag < 2 ^ (52 + d + 1)) (hd : d ≤ 8) (hp0 : -1000 ≤ place) (hp1 : place ≤ 900) :
    ∃ k rest low, mag = low * 2 ^ d + rest ∧ rest < 2 ^ d ∧ 4503599627370496 ≤ low ∧ k ≤ 9007199254740992 ∧ k = low + (if 2 ^ d < 2 * rest ∨ (2 ^ d = 2 * rest ∧ low % 2 = 1) then 1 else 0) ∧
      double.nearest neg mag place = double.word neg ((place + d + 1074).toNat * 4503599627370496 + k) := by
  have hG := Nat.two_pow_pos d
  have hm : mag ≠ 0 := by have := Nat.two_pow_pos (52 + d); omega
  have hl := log2_of h0 h1
  have e1 : 2 ^ (52 + d) = 4503599627370496 * 2 ^ d := by rw [Nat.pow_add]
  have e2 : 2 ^ (52 + d + 1) = 9007199254740992 * 2 ^ d := by rw [show 52 + d + 1 = 53 + d by omega, Nat.pow_add]
  rw [e1] at h0
  rw [e2] at h1
  have hdm := Nat.div_add_mod mag (2 ^ d)
  have hml := Nat.mod_lt mag hG
  have hlow0 : 4503599627370496 ≤ mag / 2 ^ d := (Nat.le_div_iff_mul_le hG).2 h0
  have hlow1 : mag / 2 ^ d < 9007199254740992 := Nat.div_lt_of_lt_mul (by rw [Nat.mul_comm]; exact h1)
  refine ⟨mag / 2 ^ d + (if 2 ^ d < 2 * (mag % 2 ^ d) ∨ (2 ^ d = 2 * (mag % 2 ^ d) ∧ mag / 2 ^ d % 2 = 1) then 1 else 0), mag % 2 ^ d, mag / 2 ^ d, by rw [Nat.mul_comm]; exact hdm.symm, hml, hlow0, by split <;> omega, rfl, ?_⟩
  unfold Format.nearest
  rw [if_neg hm, hl]
  have hlp : double.leastPlace = -1074 := by decide
  have hbi : double.binade = 4503599627370496 := by decide
  have hin : double.infRung = 9218868437227405312 := by decide
  have hfb : ((double.fractionBits : Nat) : Int) = 52 := rfl
  simp only [hlp, hbi, hin, hfb]
  have hmx : max (place + ((52 + d : Nat) : Int) - 52) (-1074) = place + d := by omega
  rw [hmx, show (place - (place + (d : Int))).toNat = 0 by omega, show ((place + (d : Int)) - place).toNat = d by omega, show (place + (d : Int) - -1074).toNat = (place + d + 1074).toNat by omega, Nat.shiftLeft_zero]
  have hc : Toward.even.cut neg mag d = mag / 2 ^ d + (if 2 ^ d < 2 * (mag % 2 ^ d) ∨ (2 ^ d = 2 * (mag % 2 ^ d) ∧ mag / 2 ^ d % 2 = 1) then 1 else 0) := by
    unfold Toward.cut
    have hmin : min d (mag.log2 + 2) = d := by rw [hl]; omega
    simp only [hmin, Nat.shiftLeft_eq, Nat.one_mul]
    generalize mag / 2 ^ d = low
    generalize mag % 2 ^ d = rest
    generalize 2 ^ d = G
    by_cases c1 : G < 2 * rest
    · simp [c1]
    · by_cases c2 : G = 2 * rest ∧ low % 2 = 1
      · simp [c2]
      · have : ¬ (G < 2 * rest ∨ (G = 2 * rest ∧ low % 2 = 1)) := by omega
        rw [if_neg this]
        have hb : (decide (G < 2 * rest) || (G == 2 * rest && low % 2 == 1)) = false := by
          rw [decide_eq_false c1]
          simp only [Bool.false_or, Bool.and_eq_false_iff, beq_eq_false_iff_ne]
          omega
        rw [hb]
        rfl
  have hkk : mag / 2 ^ d + (if 2 ^ d < 2 * (mag % 2 ^ d) ∨ (2 ^ d = 2 * (mag % 2 ^ d) ∧ mag / 2 ^ d % 2 = 1) then 1 else 0) ≤ 9007199254740992 := by split <;> omega
  rw [hc]
  generalize (mag / 2 ^ d + (if 2 ^ d < 2 * (mag % 2 ^ d) ∨ (2 ^ d = 2 * (mag % 2 ^ d) ∧ mag / 2 ^ d % 2 = 1) then 1 else 0)) = kk at *
  have hT : (place + (d : Int) + 1074).toNat ≤ 1982 := by omega
  generalize (place + (d : Int) + 1074).toNat = T at *
  rw [Nat.min_eq_left (rung_le hT hkk)]

theorem cut_near {q n r G low rest k st : Nat} (hn : 0 < n) (hr : r < n) (hG : 2 ≤ G) (hGe : G % 2 = 0) (hst : st = if r = 0 then 0 else 1) (hm : 2 * q + st = low * (2 * G) + rest) (hrest : rest < 2 * G)
    (hk : k = low + (if 2 * G < 2 * rest ∨ (2 * G = 2 * rest ∧ low % 2 = 1) then 1 else 0)) :
    2 * (k * (G * n)) ≤ 2 * (q * n + r) + G * n ∧ (k % 2 = 1 → 2 * (k * (G * n)) < 2 * (q * n + r) + G * n) ∧ 2 * (q * n + r) ≤ 2 * (k * (G * n)) + G * n ∧ (k % 2 = 1 → 2 * (q * n + r) < 2 * (k * (G * n)) + G * n) ∧ 2 * (low * (G * n)) ≤ 2 * (q * n + r) := by
  have hmn : 2 * (q * n) + st * n = 2 * (low * (G * n)) + rest * n := by
    have h := congrArg (· * n) hm
    simp only [Nat.add_mul, Nat.mul_assoc] at h
    rw [Nat.mul_left_comm low 2] at h
    exact h
  have hGn : 2 * n ≤ G * n := Nat.mul_le_mul_right _ hG
  have hstn : st * n = if r = 0 then 0 else n := by rw [hst]; split <;> simp
  have hlow : 2 * (low * (G * n)) ≤ 2 * (q * n + r) := by
    by_cases hr0 : r = 0
    · rw [if_pos hr0] at hstn
      omega
    · rw [if_neg hr0] at hst
      have : 1 ≤ rest := by rw [hst, Nat.mul_left_comm] at hm; omega
      have := Nat.mul_le_mul_right n this
      rw [if_neg hr0] at hstn
      omega
  rcases Nat.lt_trichotomy rest G with h | h | h
  · have e : k = low := by rw [hk, if_neg (by omega)]; omega
    have h2 : rest * n + n ≤ G * n := by
      have := Nat.mul_le_mul_right n (show rest + 1 ≤ G by omega)
      rw [Nat.add_mul, Nat.one_mul] at this
      exact this
    rw [e]
    by_cases hr0 : r = 0
    · rw [if_pos hr0] at hstn
      refine ⟨?_, fun _ => ?_, ?_, fun _ => ?_, ?_⟩ <;> omega
    · rw [if_neg hr0] at hstn
      have hrp : rest % 2 = 1 := by rw [if_neg hr0] at hst; rw [hst, Nat.mul_left_comm] at hm; omega
      have h3 : rest * n + 2 * n ≤ G * n + n := by omega
      refine ⟨?_, fun _ => ?_, ?_, fun _ => ?_, ?_⟩ <;> omega
  · have hst0 : st = 0 := by rw [Nat.mul_left_comm] at hm; have : st = 0 ∨ st = 1 := by rw [hst]; split <;> simp
                             omega
    have hrn : rest * n = G * n := by rw [h]
    have hr0 : r = 0 := by
      by_cases hr0 : r = 0
      · exact hr0
      · rw [if_neg hr0] at hst; omega
    rw [if_pos hr0] at hstn
    by_cases hp : low % 2 = 1
    · have e : k = low + 1 := by rw [hk, if_pos (by omega)]
      have e2 : (low + 1) * (G * n) = low * (G * n) + G * n := by rw [Nat.add_mul, Nat.one_mul]
      rw [e, e2]
      refine ⟨?_, fun _ => ?_, ?_, fun _ => ?_, ?_⟩ <;> omega
    · have e : k = low := by rw [hk, if_neg (by omega)]; omega
      rw [e]
      refine ⟨?_, fun _ => ?_, ?_, fun _ => ?_, ?_⟩ <;> omega
  · have e : k = low + 1 := by rw [hk, if_pos (by omega)]
    have e2 : (low + 1) * (G * n) = low * (G * n) + G * n := by rw [Nat.add_mul, Nat.one_mul]
    have h2 : G * n + n ≤ rest * n := by
      have := Nat.mul_le_mul_right n (show G + 1 ≤ rest by omega)
      rw [Nat.add_mul, Nat.one_mul] at this
      exact this
    have h3 : rest * n + n ≤ 2 * (G * n) := by
      have := Nat.mul_le_mul_right n (show rest + 1 ≤ 2 * G by omega)
      rw [Nat.add_mul, Nat.one_mul, Nat.mul_assoc] at this
      exact this
    rw [e, e2]
    by_cases hr0 : r = 0
    · rw [if_pos hr0] at hstn
      refine ⟨?_, fun _ => ?_, ?_, fun _ => ?_, ?_⟩ <;> omega
    · rw [if_neg hr0] at hstn
      refine ⟨?_, fun _ => ?_, ?_, fun _ => ?_, ?_⟩ <;> omega

end Go.Proofs.YtpbcfgehmalppaaDoor
