/- Leaves of the law FnEnvString: finite numbers, a zero's sign, the less and the greater. -/
import Derived.Test.YtpbcfgehmalppaaDoorEsA
import Derived.Test.YtpbcfgehmalppaaDoorJsA
namespace Go.Proofs.YtpbcfgehmalppaaDoor
open Go.RowKit Ieee

attribute [local go_sem] run_store_float

theorem andNot63 (b : Nat) (hb : b < 18446744073709551616) : bits .andNot .u64 (b : Int) 9223372036854775808 = ((b % 9223372036854775808 : Nat) : Int) := by
  have h := u64_andNot (b : Int) 9223372036854775808 (by omega) (by omega) (by omega) (by omega)
  rw [h]
  congr 1
  have e : (18446744073709551615 - (9223372036854775808 : Int).toNat) = 2 ^ 63 - 1 := by decide
  rw [e, Int.toNat_natCast, Nat.and_two_pow_sub_one_eq_mod]

theorem abs_any (b : Nat) (hb : b < 18446744073709551616) (w : World) : Calls Tryd.prog 74 #[.float .f64 b] w fun e w' => e = .returned (.float .f64 (b % 9223372036854775808)) ∧ w' = w := by
  have h1 := run_bits64 b
  have h2 := fun x : Int => run_frombits64 x
  have h3 := andNot63 b hb
  go_enter Tryd.func74, Tryd.ntmps74
  go_wp2
  go_ret
  exact ⟨rfl, rfl⟩

theorem isNaN_any (b : Nat) (w : World) : Calls Tryd.prog 55 #[.float .f64 b] w fun e w' => e = .returned (.bool (!feq b b)) ∧ w' = w := by
  go_enter Tryd.func55, Tryd.ntmps55
  go_wp2
  go_ret
  exact ⟨rfl, rfl⟩

theorem isInf_any (b : Nat) (hb : b < 18446744073709551616) (w : World) : Calls Tryd.prog 56 #[.float .f64 b, .int .i64 0] w fun e w' => e = .returned (.bool (fgt (b % 9223372036854775808) 9218868437227405311)) ∧ w' = w := by
  go_enter Tryd.func56, Tryd.ntmps56
  go_wp2_with fail
  refine (abs_any b hb _).mono ?_
  rintro e w1 ⟨rfl, rfl⟩
  go_wp2
  go_ret
  exact ⟨rfl, rfl⟩

theorem inf_gt : fgt 9218868437227405312 9218868437227405311 = true := by decide +kernel
theorem feq_nan {b : Nat} (hb : b < 18446744073709551616) (h : feq b b = true) : b % 9223372036854775808 ≤ 9218868437227405312 := by
  refine Nat.le_of_not_lt fun hc => ?_
  have hsw : double.signWeight = 9223372036854775808 := by decide
  have hbi : double.binade = 4503599627370496 := by decide
  have hin : double.infRung = 9218868437227405312 := by decide
  have hr : ∃ s t, double.read b = .nan s t := by
    unfold Format.read
    simp only [hsw, hbi, hin]
    rw [if_neg (by omega), if_neg (by omega), if_neg (by omega)]
    exact ⟨_, _, rfl⟩
  obtain ⟨s, t, hr⟩ := hr
  have ho : FloatKind.f64.format.order b b = none := by
    show (double.read b).order (double.read b) = none
    rw [hr]
    rfl
  unfold feq at h
  rw [ho] at h
  cases h

theorem gFinite_any (b : Nat) (hb : b < 18446744073709551616) (w : World) : Calls Tryd.prog 32 #[.float .f64 b] w fun e w' => ∃ r, e = .returned (.bool r) ∧ (r = true → Fin64 b) ∧ w' = w := by
  cases hn : feq b b
  · go_enter Tryd.func32, Tryd.ntmps32
    go_wp2_with fail
    refine (isNaN_any b _).mono ?_
    rintro e w1 ⟨rfl, rfl⟩
    rw [hn]
    go_wp2
    go_ret
    exact ⟨_, rfl, (fun h => by cases h), rfl⟩
  · go_enter Tryd.func32, Tryd.ntmps32
    go_wp2_with fail
    refine (isNaN_any b _).mono ?_
    rintro e w1 ⟨rfl, rfl⟩
    rw [hn]
    go_wp2_with fail
    refine (isInf_any b hb _).mono ?_
    rintro e w1 ⟨rfl, rfl⟩
    have hf : fgt (b % 9223372036854775808) 9218868437227405311 = false → Fin64 b := fun h => by
      have h1 := feq_nan hb hn
      refine ⟨hb, Nat.lt_of_le_of_ne h1 fun e => ?_⟩
      rw [e, inf_gt] at h
      cases h
    generalize fgt (b % 9223372036854775808) 9218868437227405311 = g at *
    cases g
    · go_wp2
      go_ret
      exact ⟨_, rfl, (fun _ => by first | exact hf rfl | exact hf trivial), rfl⟩
    · go_wp2
      go_ret
      exact ⟨_, rfl, (fun h => by cases h), rfl⟩

theorem signbit_any (b : Nat) (w : World) : Calls Tryd.prog 40 #[.float .f64 b] w fun e w' => e = .returned (.bool (decide (wrap64 (b : Int) < 0))) ∧ w' = w := by
  have h1 := run_bits64 b
  go_enter Tryd.func40, Tryd.ntmps40
  go_wp2
  go_ret
  exact ⟨rfl, rfl⟩

theorem negz : feq 9223372036854775808 0 = true := by decide +kernel
set_option maxRecDepth 100000 in
theorem minusZero_any (b : Nat) (w : World) : Calls Tryd.prog 19 #[.float .f64 b] w fun e w' => ∃ r, e = .returned (.bool r) ∧ (r = false → b ≠ 9223372036854775808) ∧ w' = w := by
  cases hz : feq b 0
  · have hzr : (FloatKind.f64.format.order b 0 == some Ordering.eq) = false := hz
    go_enter Tryd.func19, Tryd.ntmps19
    go_wp2
    go_ret
    exact ⟨_, rfl, (fun _ e => by rw [e, negz] at hz; cases hz), rfl⟩
  · have hzr : (FloatKind.f64.format.order b 0 == some Ordering.eq) = true := hz
    go_enter Tryd.func19, Tryd.ntmps19
    go_wp2_with fail
    refine (signbit_any b _).mono ?_
    rintro e w1 ⟨rfl, rfl⟩
    go_wp2
    go_ret
    exact ⟨_, rfl, (fun h e => by
      have hw : wrap64 ((9223372036854775808 : Nat) : Int) < 0 := by unfold wrap64; omega
      rw [e, decide_eq_true hw] at h
      cases h), rfl⟩

theorem fastMin_any (a b : Nat) (ha : Fin64 a) (hb : Fin64 b) (w : World) : Calls Tryd.prog 96 #[.float .f64 a, .float .f64 b] w fun e w' => e = .returned (.float .f64 (if fV a < fV b then a else b)) ∧ w' = w := by
  have h1 := feq_fin ha ha
  rw [decide_eq_true rfl] at h1
  have h2 := flt_fin ha hb
  have hn := isNaN_any a
  rw [h1] at hn
  by_cases hc : fV a < fV b
  · rw [if_pos hc]
    rw [decide_eq_true hc] at h2
    have h2r : (FloatKind.f64.format.order a b == some Ordering.lt) = true := h2
    go_enter Tryd.func96, Tryd.ntmps96
    go_wp2_with fail
    refine (hn _).mono ?_
    rintro e w1 ⟨rfl, rfl⟩
    go_wp2
    go_ret
    exact ⟨rfl, rfl⟩
  · rw [if_neg hc]
    rw [decide_eq_false hc] at h2
    have h2r : (FloatKind.f64.format.order a b == some Ordering.lt) = false := h2
    go_enter Tryd.func96, Tryd.ntmps96
    go_wp2_with fail
    refine (hn _).mono ?_
    rintro e w1 ⟨rfl, rfl⟩
    go_wp2
    go_ret
    exact ⟨rfl, rfl⟩
theorem fastMax_any (a b : Nat) (ha : Fin64 a) (hb : Fin64 b) (w : World) : Calls Tryd.prog 97 #[.float .f64 a, .float .f64 b] w fun e w' => e = .returned (.float .f64 (if fV b < fV a then a else b)) ∧ w' = w := by
  have h1 := feq_fin ha ha
  rw [decide_eq_true rfl] at h1
  have h2 := fgt_fin ha hb
  have hn := isNaN_any a
  rw [h1] at hn
  by_cases hc : fV b < fV a
  · rw [if_pos hc]
    rw [decide_eq_true hc] at h2
    have h2r : (FloatKind.f64.format.order a b == some Ordering.gt) = true := h2
    go_enter Tryd.func97, Tryd.ntmps97
    go_wp2_with fail
    refine (hn _).mono ?_
    rintro e w1 ⟨rfl, rfl⟩
    go_wp2
    go_ret
    exact ⟨rfl, rfl⟩
  · rw [if_neg hc]
    rw [decide_eq_false hc] at h2
    have h2r : (FloatKind.f64.format.order a b == some Ordering.gt) = false := h2
    go_enter Tryd.func97, Tryd.ntmps97
    go_wp2_with fail
    refine (hn _).mono ?_
    rintro e w1 ⟨rfl, rfl⟩
    go_wp2
    go_ret
    exact ⟨rfl, rfl⟩

end Go.Proofs.YtpbcfgehmalppaaDoor
