/- The text of the float64 nearest to a decimal of at most 15 digits has just that decimal's digits. -/
import Derived.Test.YtpbcfgehmalppaaDoorDcD
namespace Go.Proofs.YtpbcfgehmalppaaDoor
open Go.RowKit Ieee

theorem ndig_ge (d : Nat) (h0 : d ≠ 0) (h : d < 18446744073709551616) : 10 ^ (ndig d - 1) ≤ d ∧ 1 ≤ ndig d := by
  have hA : ∀ l : Nat, l < 65 → 1 ≤ l → 10 ^ (l * 78913 / 262144 - 1) ≤ 2 ^ (l - 1) := by decide +kernel
  obtain ⟨_, hb⟩ := bitLen_spec' d h
  obtain ⟨h1, h2⟩ := hb h0
  have h3 := hA (Lib.bitLen d) (by have := bitLen_64 d h; omega) h2
  unfold ndig
  by_cases hc : 10 ^ (Lib.bitLen d * 78913 / 262144) ≤ d
  · rw [decide_eq_true hc]
    exact ⟨hc, by show 1 ≤ Lib.bitLen d * 78913 / 262144 + 1; omega⟩
  · rw [decide_eq_false hc]
    show 10 ^ (Lib.bitLen d * 78913 / 262144 + 0 - 1) ≤ d ∧ 1 ≤ Lib.bitLen d * 78913 / 262144 + 0
    refine ⟨Nat.le_trans h3 h1, ?_⟩
    refine Nat.pos_of_ne_zero fun e => ?_
    have e' : Lib.bitLen d * 78913 / 262144 = 0 := by omega
    rw [e'] at hc
    omega

/-- How many digits a number has; 0 has none. -/
def dl (n : Nat) : Nat := if n = 0 then 0 else ndig n
theorem dl_lt {n : Nat} (h : n < 18446744073709551616) : n < 10 ^ dl n := by
  unfold dl
  split
  · rename_i e; rw [e]; simp
  · exact ndig_lt n h
theorem dl_ge {n : Nat} (h0 : n ≠ 0) (h : n < 18446744073709551616) : 10 ^ (dl n - 1) ≤ n ∧ 1 ≤ dl n := by
  unfold dl
  rw [if_neg h0]
  exact ndig_ge n h0 h
theorem dl_eq {n L : Nat} (h : n < 18446744073709551616) (h0 : n ≠ 0) (h1 : n < 10 ^ L) (h2 : 10 ^ (L - 1) ≤ n) (h3 : 1 ≤ L) : dl n = L := by
  have a := dl_lt h
  obtain ⟨b, c⟩ := dl_ge h0 h
  rcases Nat.lt_trichotomy (dl n) L with hl | hl | hl
  · have : 10 ^ dl n ≤ 10 ^ (L - 1) := Nat.pow_le_pow_right (by omega) (by omega)
    omega
  · exact hl
  · have : 10 ^ L ≤ 10 ^ (dl n - 1) := Nat.pow_le_pow_right (by omega) (by omega)
    omega

/-- The j-th digit from the right, as a sign. -/
def dgt (n j : Nat) : Int := ((48 + n / 10 ^ j % 10 : Nat) : Int)
theorem dg_eq (n j : Nat) : ((Lib.dg n j).toNat : Int) = dgt n j := by
  unfold Lib.dg dgt
  rw [UInt8.toNat_ofNat']
  have : n / 10 ^ j % 10 < 10 := Nat.mod_lt _ (by omega)
  omega
/-- A number's last L digits. -/
def dgs (n L : Nat) : List Int := (List.range L).map fun i => dgt n (L - 1 - i)
/-- A number with at least w digits. -/
def dDig (n w : Nat) : List Int := dgs n (max w (dl n))

theorem dgt_scale {n t j : Nat} (h : t ≤ j) : dgt (n * 10 ^ t) j = dgt n (j - t) := by
  unfold dgt
  have e : 10 ^ j = 10 ^ t * 10 ^ (j - t) := by rw [← Nat.pow_add]; congr 1; omega
  rw [e, ← Nat.div_div_eq_div_mul, Nat.mul_div_cancel _ (Nat.pow_pos (by omega))]
theorem dgt_scale0 {n t j : Nat} (h : j < t) : dgt (n * 10 ^ t) j = 48 := by
  unfold dgt
  have e : 10 ^ t = 10 * 10 ^ (t - j - 1) * 10 ^ j := by rw [Nat.mul_comm 10, ← Nat.pow_succ, ← Nat.pow_add]; congr 1; omega
  have e2 : n * 10 ^ t / 10 ^ j % 10 = 0 := by
    rw [e, ← Nat.mul_assoc, Nat.mul_div_cancel _ (Nat.pow_pos (by omega)), Nat.mul_left_comm]
    exact Nat.mul_mod_right _ _
  rw [e2]
  rfl
theorem dgt_big {n j : Nat} (h : n < 10 ^ j) : dgt n j = 48 := by
  unfold dgt
  rw [Nat.div_eq_of_lt h]
  rfl
theorem dgt_div (n p j : Nat) : dgt (n / 10 ^ p) j = dgt n (p + j) := by
  unfold dgt
  rw [Nat.div_div_eq_div_mul, ← Nat.pow_add]
theorem dgt_mod {n p j : Nat} (h : j < p) : dgt (n % 10 ^ p) j = dgt n j := by
  unfold dgt
  congr 2
  have e : 10 ^ p = 10 ^ j * (10 * 10 ^ (p - j - 1)) := by rw [Nat.mul_comm 10, ← Nat.pow_succ, ← Nat.pow_add]; congr 1; omega
  rw [e, Nat.mod_mul_right_div_self, Nat.mod_mul_right_mod]

theorem trimN_spec (n u : Nat) : ∀ k, (∀ i, trimN n u k ≤ i → i < k → dgt u (n - 1 - i) = 48) ∧ (trimN n u k = 0 ∨ dgt u (n - 1 - (trimN n u k - 1)) ≠ 48)
  | 0 => ⟨fun i _ h => by omega, .inl rfl⟩
  | k + 1 => by
    unfold trimN
    rw [dg_eq]
    by_cases h : dgt u (n - 1 - k) = 48
    · rw [if_pos h]
      obtain ⟨h1, h2⟩ := trimN_spec n u k
      refine ⟨fun i hi hk => ?_, h2⟩
      by_cases e : i = k
      · rw [e]; exact h
      · exact h1 i hi (by omega)
    · rw [if_neg h]
      exact ⟨fun i hi hk => by omega, .inr (by simpa using h)⟩

/-- What is left of n / 10^p when zeros at the end of its digits behind the point are left away. -/
def strip : Nat → Nat → Nat × Nat
  | n, 0 => (n, 0)
  | n, p + 1 => if n % 10 = 0 then strip (n / 10) p else (n, p + 1)
theorem strip_spec : ∀ p n, n = (strip n p).1 * 10 ^ (p - (strip n p).2) ∧ (strip n p).2 ≤ p ∧ ((strip n p).2 = 0 ∨ (strip n p).1 % 10 ≠ 0)
  | 0, n => by simp [strip]
  | p + 1, n => by
    unfold strip
    by_cases h : n % 10 = 0
    · rw [if_pos h]
      obtain ⟨h1, h2, h3⟩ := strip_spec p (n / 10)
      refine ⟨?_, by omega, h3⟩
      rw [show p + 1 - (strip (n / 10) p).2 = (p - (strip (n / 10) p).2) + 1 by omega, Nat.pow_succ, ← Nat.mul_assoc, ← h1]
      omega
    · rw [if_neg h]
      simp [h]

/-- The text of n / 10^p, n from 0 on, without zeros at its end. -/
def posT (n p : Nat) : List Int :=
  if (strip n p).2 = 0 then dDig (strip n p).1 1
  else dDig ((strip n p).1 / 10 ^ (strip n p).2) 1 ++ 46 :: dDig ((strip n p).1 % 10 ^ (strip n p).2) (strip n p).2

theorem map_congr_range {f g : Nat → Int} {n : Nat} (h : ∀ i, i < n → f i = g i) : (List.range n).map f = (List.range n).map g :=
  List.map_congr_left fun i hi => h i (List.mem_range.1 hi)
theorem range_split {f : Nat → Int} {a b : Nat} (c : Int) (h : ∀ i, a ≤ i → i < a + b → f i = c) : (List.range (a + b)).map f = (List.range a).map f ++ List.replicate b c := by
  rw [List.range_add, List.map_append, List.map_map]
  congr 1
  refine List.ext_getElem (by simp) fun i h1 h2 => ?_
  simp at h1 ⊢
  exact h (a + i) (by omega) (by omega)
theorem range_split' {f : Nat → Int} {a b : Nat} (c : Int) (h : ∀ i, i < a → f i = c) : (List.range (a + b)).map f = List.replicate a c ++ (List.range b).map fun i => f (a + i) := by
  rw [List.range_add, List.map_append, List.map_map]
  congr 1
  refine List.ext_getElem (by simp) fun i h1 h2 => ?_
  simp at h1 ⊢
  exact h i (by omega)

/-- The writer's text of V / 10^Q. -/
theorem fmt_text (neg : Bool) (n p t : Nat) (hn : n ≠ 0) (hp : p = 0 ∨ n % 10 ≠ 0) (hV : n * 10 ^ t < 18446744073709551616) :
    fmtV neg (trimN (ndig (n * 10 ^ t)) (n * 10 ^ t) (ndig (n * 10 ^ t))) (fun i => ((Lib.dg (n * 10 ^ t) (ndig (n * 10 ^ t) - 1 - i)).toNat : Int)) ((ndig (n * 10 ^ t) : Int) - ((p + t : Nat) : Int)) =
      (if neg then [45] else []) ++ (if p = 0 then dDig n 1 else dDig (n / 10 ^ p) 1 ++ 46 :: dDig (n % 10 ^ p) p) := by
  have hT : 0 < 10 ^ t := Nat.pow_pos (by omega)
  have hn64 : n < 18446744073709551616 := by
    have := Nat.mul_le_mul_left n (show 1 ≤ 10 ^ t from hT)
    omega
  have hV0 : n * 10 ^ t ≠ 0 := Nat.ne_of_gt (Nat.mul_pos (Nat.pos_of_ne_zero hn) hT)
  have l0 := dl_lt hn64
  obtain ⟨l1, l2⟩ := dl_ge hn hn64
  have hnd : ndig (n * 10 ^ t) = dl n + t := by
    have h1 : dl (n * 10 ^ t) = dl n + t := by
      refine dl_eq hV hV0 ?_ ?_ (by omega)
      · rw [Nat.pow_add]
        exact Nat.mul_lt_mul_of_pos_right l0 hT
      · rw [show dl n + t - 1 = (dl n - 1) + t by omega, Nat.pow_add]
        exact Nat.mul_le_mul_right _ l1
    unfold dl at h1
    rw [if_neg hV0] at h1
    exact h1
  obtain ⟨s1, s2⟩ := trimN_spec (ndig (n * 10 ^ t)) (n * 10 ^ t) (ndig (n * 10 ^ t))
  have hds : (fun i => ((Lib.dg (n * 10 ^ t) (ndig (n * 10 ^ t) - 1 - i)).toNat : Int)) = fun i => dgt (n * 10 ^ t) (ndig (n * 10 ^ t) - 1 - i) := funext fun i => dg_eq _ _
  rw [hds, hnd]
  rw [hnd] at s1 s2
  have hdi : ∀ i, i < dl n → dgt (n * 10 ^ t) (dl n + t - 1 - i) = dgt n (dl n - 1 - i) := fun i hi => by
    rw [dgt_scale (by omega)]
    congr 1
    omega
  have hdz : ∀ i, dl n ≤ i → i < dl n + t → dgt (n * 10 ^ t) (dl n + t - 1 - i) = 48 := fun i h1 h2 => dgt_scale0 (by omega)
  have hrl : trimN (dl n + t) (n * 10 ^ t) (dl n + t) ≤ dl n := by
    refine Nat.le_of_not_lt fun h => ?_
    rcases s2 with e | e
    · omega
    · exact e (hdz _ (by omega) (by have := trimN_le (dl n + t) (n * 10 ^ t) (dl n + t); omega))
  generalize trimN (dl n + t) (n * 10 ^ t) (dl n + t) = r at *
  have hdp : (((dl n + t : Nat) : Int)) - ((p + t : Nat) : Int) = (dl n : Int) - p := by omega
  rw [hdp]
  unfold fmtV
  congr 1
  by_cases hp0 : p = 0
  · rw [if_pos hp0, hp0, if_pos (by omega), if_neg (by omega), List.append_nil]
    have e1 : ((dl n : Int) - ((0 : Nat) : Int)).toNat = dl n := by omega
    rw [e1, Nat.min_eq_left hrl]
    unfold dDig dgs
    rw [Nat.max_eq_right l2]
    obtain ⟨b, hb⟩ : ∃ b, dl n = r + b := ⟨dl n - r, by omega⟩
    have h48 : ∀ i, r ≤ i → i < r + b → dgt n (dl n - 1 - i) = 48 := fun i h1 h2 => by
      rw [← hdi i (by omega)]
      exact s1 i h1 (by omega)
    have e2 : (List.range (dl n)).map (fun i => dgt n (dl n - 1 - i)) = (List.range r).map (fun i => dgt n (dl n - 1 - i)) ++ List.replicate b 48 := by
      conv => lhs; rw [show List.range (dl n) = List.range (r + b) by rw [← hb]]
      exact range_split 48 h48
    rw [e2]
    congr 1
    · exact map_congr_range fun i hi => hdi i (by omega)
    · congr 1; omega
  · have hp1 : n % 10 ≠ 0 := by rcases hp with h | h; · exact absurd h hp0
                                exact h
    have hr : r = dl n := by
      refine Nat.le_antisymm hrl (Nat.le_of_not_lt fun h => ?_)
      have := s1 (dl n - 1) (by omega) (by omega)
      rw [hdi _ (by omega), show dl n - 1 - (dl n - 1) = 0 by omega] at this
      unfold dgt at this
      simp at this
      omega
    rw [if_neg hp0, hr, if_pos (show (dl n : Int) - p < (dl n : Int) by omega)]
    have hnm64 : n % 10 ^ p < 18446744073709551616 := Nat.lt_of_le_of_lt (Nat.mod_le _ _) hn64
    have hP : 0 < 10 ^ p := Nat.pow_pos (by omega)
    have hnml : dl (n % 10 ^ p) ≤ p := by
      by_cases h0 : n % 10 ^ p = 0
      · unfold dl; rw [if_pos h0]; omega
      · refine Nat.le_of_not_lt fun h => ?_
        have h1 := (dl_ge h0 hnm64).1
        have h2 := Nat.mod_lt n hP
        have h3 : 10 ^ p ≤ 10 ^ (dl (n % 10 ^ p) - 1) := Nat.pow_le_pow_right (by omega) (by omega)
        omega
    have hfr : dDig (n % 10 ^ p) p = (List.range p).map fun i => dgt n (p - 1 - i) := by
      unfold dDig dgs
      rw [Nat.max_eq_left hnml]
      exact map_congr_range fun i hi => dgt_mod (by omega)
    rw [hfr]
    by_cases hl : p < dl n
    · have e1 : ((dl n : Int) - p).toNat = dl n - p := by omega
      rw [if_pos (by omega), e1, Nat.min_eq_right (by omega), Nat.sub_self, List.replicate_zero, List.append_nil]
      have hq64 : n / 10 ^ p < 18446744073709551616 := Nat.lt_of_le_of_lt (Nat.div_le_self _ _) hn64
      have hql : dl (n / 10 ^ p) = dl n - p := by
        have hge : 10 ^ (dl n - p - 1) ≤ n / 10 ^ p := by
          refine (Nat.le_div_iff_mul_le hP).2 ?_
          rw [← Nat.pow_add, show dl n - p - 1 + p = dl n - 1 by omega]
          exact l1
        refine dl_eq hq64 ?_ ?_ hge (by omega)
        · have := Nat.pow_pos (n := dl n - p - 1) (show 0 < 10 by omega)
          omega
        · refine Nat.div_lt_of_lt_mul ?_
          rw [← Nat.pow_add, show p + (dl n - p) = dl n by omega]
          exact l0
      have hint : dDig (n / 10 ^ p) 1 = (List.range (dl n - p)).map fun i => dgt n (dl n - 1 - i) := by
        unfold dDig dgs
        rw [hql, Nat.max_eq_right (by omega)]
        refine map_congr_range fun i hi => ?_
        rw [dgt_div]
        congr 1
        omega
      rw [hint]
      congr 1
      · exact map_congr_range fun i hi => hdi i (by omega)
      · congr 1
        rw [show (-((dl n : Int) - p)).toNat = 0 by omega, List.replicate_zero, List.nil_append, show dl n - (dl n - p) = p by omega]
        refine map_congr_range fun i hi => ?_
        show dgt (n * 10 ^ t) (dl n + t - 1 - (dl n - p + i)) = _
        rw [hdi _ (by omega)]
        congr 1
        omega
    · rw [if_neg (by omega)]
      have hlt : n < 10 ^ p := Nat.lt_of_lt_of_le l0 (Nat.pow_le_pow_right (by omega) (by omega))
      have hint : dDig (n / 10 ^ p) 1 = [48] := by
        rw [Nat.div_eq_of_lt hlt]
        rfl
      rw [hint]
      congr 1
      congr 1
      rw [show ((dl n : Int) - p).toNat = 0 by omega, Nat.sub_zero]
      obtain ⟨a, ha⟩ : ∃ a, p = a + dl n := ⟨p - dl n, by omega⟩
      have e3 : (List.range p).map (fun i => dgt n (p - 1 - i)) = List.replicate a 48 ++ (List.range (dl n)).map fun i => dgt n (p - 1 - (a + i)) := by
        conv => lhs; rw [show List.range p = List.range (a + dl n) by rw [← ha]]
        exact range_split' 48 fun i hi => dgt_big (Nat.lt_of_lt_of_le l0 (Nat.pow_le_pow_right (by omega) (by omega)))
      rw [e3, show (-((dl n : Int) - p)).toNat = a by omega]
      congr 1
      refine map_congr_range fun i hi => ?_
      rw [Nat.zero_add]
      show dgt (n * 10 ^ t) (dl n + t - 1 - i) = _
      rw [hdi _ hi]
      congr 1
      omega


/-- The bits of x / 10^p. -/
def decB (x : Int) (p : Nat) : Nat := (floatBits .quo .f64 (floatOfInt .f64 x) (floatOfInt .f64 ((10 ^ p : Nat) : Int))).getD 0

theorem decB_zero : ∀ p : Nat, p < 16 → floatBits .quo .f64 (floatOfInt .f64 0) (floatOfInt .f64 ((10 ^ p : Nat) : Int)) = some 0 := by decide +kernel
theorem strip_zero : ∀ p : Nat, strip 0 p = (0, 0)
  | 0 => rfl
  | p + 1 => by unfold strip; rw [if_pos (by rfl)]; exact strip_zero p

set_option maxRecDepth 100000 in
/-- The float64 nearest to x / 10^p is written as that decimal. -/
theorem dec_text (x : Int) (X p : Nat) (hX : x.natAbs = X) (hx1 : X < 1000000000000000) (hp : p < 16) :
    floatBits .quo .f64 (floatOfInt .f64 x) (floatOfInt .f64 ((10 ^ p : Nat) : Int)) = some (decB x p) ∧ decB x p < 18446744073709551616 ∧ ftoaV hiT loT (decB x p) = (if x < 0 then [45] else []) ++ posT X p := by
  have hu0 : 0 < 10 ^ p := Nat.pow_pos (by omega)
  have hu1 : 10 ^ p ≤ 1000000000000000 := Nat.pow_le_pow_right (show 0 < 10 by omega) (show p ≤ 15 by omega)
  by_cases h0 : X = 0
  · obtain rfl : x = 0 := by omega
    have e : decB 0 p = 0 := by unfold decB; rw [decB_zero p hp]; rfl
    rw [e]
    refine ⟨decB_zero p hp, by omega, ?_⟩
    rw [h0, if_neg (by omega)]
    unfold posT
    rw [strip_zero, if_pos rfl]
    rfl
  · obtain ⟨b, j, m, hb, b1, b2, b3, b4, hj, hm0, hm1, hm2, e1, e2, hlo, hhi⟩ := quo_spec x X (10 ^ p) hX (by omega) hx1 hu0 hu1
    have eb : decB x p = b := by unfold decB; rw [hb]; rfl
    rw [eb]
    refine ⟨hb, b1, ?_⟩
    obtain ⟨P, hpP, hP, hV, hsf⟩ := sf_exact j m X p hj hm0 hm1 hm2 hx1 hlo hhi
    unfold ftoaV
    rw [if_neg b3, if_neg b4, b2]
    unfold finV
    simp only
    rw [e1, e2, hsf]
    simp only [Int.toNat_natCast]
    obtain ⟨s1, s2, s3⟩ := strip_spec p X
    have hn0 : (strip X p).1 ≠ 0 := fun h => by rw [h, Nat.zero_mul] at s1; exact h0 s1
    have eV : X * 10 ^ (P - 1 - p) = (strip X p).1 * 10 ^ (P - 1 - (strip X p).2) := by
      conv => lhs; rw [s1]
      rw [Nat.mul_assoc, ← Nat.pow_add]
      congr 2
      omega
    have h := fmt_text (decide (x < 0)) (strip X p).1 (strip X p).2 (P - 1 - (strip X p).2) hn0 s3 (by rw [← eV]; omega)
    rw [← eV, show (((strip X p).2 + (P - 1 - (strip X p).2) : Nat) : Int) = (P : Int) - 1 by omega] at h
    rw [← Int.sub_eq_add_neg, h]
    unfold posT
    congr 1
    by_cases hx : x < 0
    · rw [if_pos hx, decide_eq_true hx]; rfl
    · rw [if_neg hx, decide_eq_false hx]; rfl

end Go.Proofs.YtpbcfgehmalppaaDoor
