/- The law FnEnvString: whatever the envelope, it returns true and turns nothing that was there. -/
import Derived.Test.YtpbcfgehmalppaaDoorEsG
import Derived.Test.YtpbcfgehmalppaaDoorWLast
namespace Go.Proofs.YtpbcfgehmalppaaDoor
open Go.RowKit Go.Proofs.YtpbcfgehmalppaaDoorW.PrintLast

attribute [local go_sem] run_store_float

set_option maxRecDepth 100000 in
theorem EnvString_not (a b c d : Nat) (w : World) :
    Calls Tryd.prog 21 #[.agg #[.bool false, .float .f64 a, .float .f64 b, .float .f64 c, .float .f64 d]] w fun e w' => e = .returned (.string ⟨#[69, 78, 86, 69, 76, 79, 80, 69, 32, 69, 77, 80, 84, 89]⟩) ∧ Below w.heap.size w w' := by
  have hA : Below w.heap.size w (w.alloc (.cells #[.bool false, .float .f64 a, .float .f64 b, .float .f64 c, .float .f64 d] 46)) := (Below.refl _ _).alloc (Nat.le_refl _) _
  go_enter Tryd.func21, Tryd.ntmps21
  go_wp2_with fail
  refine (envelope_not a b c d _).mono ?_
  rintro e w1 ⟨rfl, h1⟩
  go_wp2_with fail
  refine (String_not 0 0 0 0 _).mono ?_
  rintro e w2 ⟨rfl, h2⟩
  go_wp2
  go_ret
  exact ⟨rfl, by first | exact h1.trans (h2.mono h1.size) | exact (hA.trans (h1.mono (by simp))).trans (h2.mono (by have := h1.size; simp at this; omega))⟩
set_option maxRecDepth 100000 in
theorem EnvString_full (a b c d : Nat) (ha : Fin64 a) (hb : Fin64 b) (hc : Fin64 c) (hd : Fin64 d) (na : a ≠ 9223372036854775808) (nb : b ≠ 9223372036854775808) (nc : c ≠ 9223372036854775808) (nd : d ≠ 9223372036854775808) (w : World) (ht : FtTabs w hiT loT) :
    Calls Tryd.prog 21 #[.agg #[.bool true, .float .f64 a, .float .f64 b, .float .f64 c, .float .f64 d]] w fun e w' => e = .returned (.string ⟨(envB (fMin a c) (fMin b d) (fMax a c) (fMax b d)).toArray⟩) ∧ Below w.heap.size w w' := by
  have hA : Below w.heap.size w (w.alloc (.cells #[.bool true, .float .f64 a, .float .f64 b, .float .f64 c, .float .f64 d] 46)) := (Below.refl _ _).alloc (Nat.le_refl _) _
  have p1 : fMin a c < 18446744073709551616 := by unfold fMin; split; exact hc.1; exact ha.1
  have p2 : fMin b d < 18446744073709551616 := by unfold fMin; split; exact hd.1; exact hb.1
  have p3 : fMax a c < 18446744073709551616 := by unfold fMax; split; exact hc.1; exact ha.1
  have p4 : fMax b d < 18446744073709551616 := by unfold fMax; split; exact hd.1; exact hb.1
  go_enter Tryd.func21, Tryd.ntmps21
  go_wp2_with fail
  refine (envelope_full a b c d ha hb hc hd na nb nc nd _).mono ?_
  rintro e w1 ⟨rfl, h1⟩
  have hw1 : Below w.heap.size w w1 := by first | exact h1 | exact hA.trans (h1.mono (by simp))
  go_wp2_with fail
  refine (String_full _ _ _ _ p1 p2 p3 p4 _ (ht.below hw1)).mono ?_
  rintro e w2 ⟨rfl, h2⟩
  go_wp2
  go_ret
  exact ⟨rfl, hw1.trans (h2.mono hw1.size)⟩

theorem envB_eq (x y m n : Nat) : (⟨#[69, 78, 86, 69, 76, 79, 80, 69, 40]⟩ : ByteArray) ++ strOfNums (ftoaV hiT loT x) ++ ⟨#[32]⟩ ++ strOfNums (ftoaV hiT loT y) ++ ⟨#[44]⟩ ++ strOfNums (ftoaV hiT loT m) ++ ⟨#[32]⟩ ++ strOfNums (ftoaV hiT loT n) ++ ⟨#[41]⟩ = ⟨(envB x y m n).toArray⟩ := by
  apply ByteArray.ext
  apply Array.toList_inj.1
  simp [envB, tB, ByteArray.data_append]

set_option maxRecDepth 100000 in
theorem field_box (f : Bool) (p q r s : Nat) (w : World) : (Instr.field 46 (.agg #[.bool f, .float .f64 p, .float .f64 q, .float .f64 r, .float .f64 s]) 1).run Tryd.prog w = .ok (.agg #[.float .f64 p, .float .f64 q, .float .f64 r, .float .f64 s]) w := rfl

set_option maxHeartbeats 4000000 in
set_option maxRecDepth 100000 in
theorem elaw_full (a b c d : Nat) (ha : a < 18446744073709551616) (hb : b < 18446744073709551616) (hc : c < 18446744073709551616) (hd : d < 18446744073709551616) (w : World) (ht : FtTabs w hiT loT) :
    Calls Tryd.prog 6 #[.agg #[.bool true, .float .f64 a, .float .f64 b, .float .f64 c, .float .f64 d]] w fun e w' => e = .returned (.bool true) ∧ Below w.heap.size w w' := by
  have hA : Below w.heap.size w (w.alloc (.cells #[.bool true, .float .f64 a, .float .f64 b, .float .f64 c, .float .f64 d] 46)) := (Below.refl _ _).alloc (Nat.le_refl _) _
  have hB := hA.alloc (by simp) (.cells #[.float .f64 a, .float .f64 b, .float .f64 c, .float .f64 d] 44)
  have hC := hB.alloc (by simp; omega) (.cells #[.bool true, .float .f64 a, .float .f64 b, .float .f64 c, .float .f64 d] 46)
  have k0 := ((Blk.new w 46 #[.bool true, .float .f64 a, .float .f64 b, .float .f64 c, .float .f64 d]).alloc (.cells #[.float .f64 a, .float .f64 b, .float .f64 c, .float .f64 d] 44)).alloc (.cells #[.bool true, .float .f64 a, .float .f64 b, .float .f64 c, .float .f64 d] 46)
  have k1 := (Blk.new (w.alloc (.cells #[.bool true, .float .f64 a, .float .f64 b, .float .f64 c, .float .f64 d] 46)) 44 #[.float .f64 a, .float .f64 b, .float .f64 c, .float .f64 d]).alloc (.cells #[.bool true, .float .f64 a, .float .f64 b, .float .f64 c, .float .f64 d] 46)
  have k2 := Blk.new ((w.alloc (.cells #[.bool true, .float .f64 a, .float .f64 b, .float .f64 c, .float .f64 d] 46)).alloc (.cells #[.float .f64 a, .float .f64 b, .float .f64 c, .float .f64 d] 44)) 46 #[.bool true, .float .f64 a, .float .f64 b, .float .f64 c, .float .f64 d]
  rw [World.size_alloc] at k1
  rw [World.size_alloc, World.size_alloc] at k2
  have hfit := eFits_any true a b c d ha hb hc hd _ _ k2
  have HF := Lib.hid hfit
  have HC := Lib.hid hC
  have K0 := Lib.hid k0
  have K1 := Lib.hid k1
  have HT := Lib.hid ht
  clear hA hB hC k0 k1 k2 hfit ht
  go_enter Tryd.func6, Tryd.ntmps6
  go_wp2_with fail
  refine HF.out.mono ?_
  rintro e w1 ⟨r, rfl, hr, h1⟩
  have H1 := Lib.hid (HC.out.trans (h1.mono (by simp; omega)))
  have E1 := Lib.hid (K0.out.below h1 (by simp; omega))
  have B1 := Lib.hid (K1.out.below h1 (by simp))
  clear h1
  cases r
  · go_wp2
    go_ret
    exact ⟨rfl, H1.out⟩
  have q0 := E1.out.cell 0
  have q1 := E1.out.cell 1
  have q2 := E1.out.cell 2
  have q3 := E1.out.cell 3
  have q4 := E1.out.cell 4
  have x0 := B1.out.cell 0
  have x1 := B1.out.cell 1
  have x2 := B1.out.cell 2
  have x3 := B1.out.cell 3
  simp at q0 q1 q2 q3 q4 x0 x1 x2 x3
  go_wp2_with fail
  refine (minusZero_any a _).mono ?_
  rintro e w1 ⟨r, rfl, na, rfl⟩
  cases r
  case true =>
    go_wp2
    go_ret
    exact ⟨rfl, H1.out⟩
  go_wp2_with fail
  refine (minusZero_any b _).mono ?_
  rintro e w1 ⟨r, rfl, nb, rfl⟩
  cases r
  case true =>
    go_wp2
    go_ret
    exact ⟨rfl, H1.out⟩
  go_wp2_with fail
  refine (minusZero_any c _).mono ?_
  rintro e w1 ⟨r, rfl, nc, rfl⟩
  cases r
  case true =>
    go_wp2
    go_ret
    exact ⟨rfl, H1.out⟩
  go_wp2_with fail
  refine (minusZero_any d _).mono ?_
  rintro e w1 ⟨r, rfl, nd, rfl⟩
  cases r
  case true =>
    go_wp2
    go_ret
    exact ⟨rfl, H1.out⟩
  replace na : a ≠ 9223372036854775808 := by simpa using na
  replace nb : b ≠ 9223372036854775808 := by simpa using nb
  replace nc : c ≠ 9223372036854775808 := by simpa using nc
  replace nd : d ≠ 9223372036854775808 := by simpa using nd
  obtain ⟨fa, fb, fc, fd⟩ : Fin64 a ∧ Fin64 b ∧ Fin64 c ∧ Fin64 d := by simpa using hr
  clear hr
  go_wp2_with fail
  refine (eMade_full a b c d fa fb fc fd _).mono ?_
  rintro e w2 ⟨rfl, h2⟩
  have H2 := Lib.hid (H1.out.trans (h2.mono H1.out.size))
  have E2 := Lib.hid (E1.out.below h2 E1.out.lt)
  clear h2 q0 q1 q2 q3 q4 x0 x1 x2 x3
  have hfd := field_box true (fMin a c) (fMin b d) (fMax a c) (fMax b d)
  have g1 : fMin a c < 18446744073709551616 := by unfold fMin; split; exact hc; exact ha
  have g2 : fMin b d < 18446744073709551616 := by unfold fMin; split; exact hd; exact hb
  have g3 : fMax a c < 18446744073709551616 := by unfold fMax; split; exact hc; exact ha
  have g4 : fMax b d < 18446744073709551616 := by unfold fMax; split; exact hd; exact hb
  have hes := EnvString_full a b c d fa fb fc fd na nb nc nd
  rw [← envB_eq] at hes
  have hw1 := fun w ht => WriteNumber_any (fMin a c) hiT loT w ht g1
  have z1 : (strOfNums (ftoaV hiT loT (fMin a c))).size ≤ 2000 := tB_len (fMin a c) g1
  have hw2 := fun w ht => WriteNumber_any (fMin b d) hiT loT w ht g2
  have z2 : (strOfNums (ftoaV hiT loT (fMin b d))).size ≤ 2000 := tB_len (fMin b d) g2
  have hw3 := fun w ht => WriteNumber_any (fMax a c) hiT loT w ht g3
  have z3 : (strOfNums (ftoaV hiT loT (fMax a c))).size ≤ 2000 := tB_len (fMax a c) g3
  have hw4 := fun w ht => WriteNumber_any (fMax b d) hiT loT w ht g4
  have z4 : (strOfNums (ftoaV hiT loT (fMax b d))).size ≤ 2000 := tB_len (fMax b d) g4
  generalize strOfNums (ftoaV hiT loT (fMin a c)) = T1 at *
  generalize strOfNums (ftoaV hiT loT (fMin b d)) = T2 at *
  generalize strOfNums (ftoaV hiT loT (fMax a c)) = T3 at *
  generalize strOfNums (ftoaV hiT loT (fMax b d)) = T4 at *
  generalize fMin a c = p1 at *
  generalize fMin b d = p2 at *
  generalize fMax a c = p3 at *
  generalize fMax b d = p4 at *
  have HES := Lib.hid hes
  have HW1 := Lib.hid hw1
  have HW2 := Lib.hid hw2
  have HW3 := Lib.hid hw3
  have HW4 := Lib.hid hw4
  clear hes hw1 hw2 hw3 hw4
  clear g1 g2 g3 g4
  have hs1 : ¬ 9223372036854775807 < 9 + T1.size := by omega
  have hs2 : ¬ 9223372036854775807 < 9 + T1.size + 1 := by omega
  have hs3 : ¬ 9223372036854775807 < 9 + T1.size + 1 + T2.size := by omega
  have hs4 : ¬ 9223372036854775807 < 9 + T1.size + 1 + T2.size + 1 := by omega
  have hs5 : ¬ 9223372036854775807 < 9 + T1.size + 1 + T2.size + 1 + T3.size := by omega
  have hs6 : ¬ 9223372036854775807 < 9 + T1.size + 1 + T2.size + 1 + T3.size + 1 := by omega
  have hs7 : ¬ 9223372036854775807 < 9 + T1.size + 1 + T2.size + 1 + T3.size + 1 + T4.size := by omega
  have hs8 : ¬ 9223372036854775807 < 9 + T1.size + 1 + T2.size + 1 + T3.size + 1 + T4.size + 1 := by omega
  have KB3 := Lib.hid (Blk.drew (Blk.new w2 44 #[.float .f64 p1, .float .f64 p2, .float .f64 p3, .float .f64 p4]))
  have HB3 := Lib.hid (Below.drew (H2.out.alloc H2.out.size (.cells #[.float .f64 p1, .float .f64 p2, .float .f64 p3, .float .f64 p4] 44)))
  have E3 := Lib.hid (Blk.drew (E2.out.alloc (.cells #[.float .f64 p1, .float .f64 p2, .float .f64 p3, .float .f64 p4] 44)))
  go_wp2_with fail
  refine start_ (n := 21) (S := fun w' => w'.cell? ⟨w2.heap.size, 0, none⟩ = some (.float .f64 p1) ∧ w'.cell? ⟨w2.heap.size, 1, none⟩ = some (.float .f64 p2) ∧ w'.cell? ⟨w2.heap.size, 2, none⟩ = some (.float .f64 p3) ∧ w'.cell? ⟨w2.heap.size, 3, none⟩ = some (.float .f64 p4)) (ds := []) #[false, false, false, false, false, false, false, false, false, false, false, false, false, false, false, false, false, false, false, false, false] (by kernel_rfl) rfl rfl ⟨(KB3.out.cell 0).trans rfl, (KB3.out.cell 1).trans rfl, (KB3.out.cell 2).trans rfl, (KB3.out.cell 3).trans rfl⟩ (fun hHeld => ?_)
  refine pure_ (i := 0) (N := some 35) (v := ?_) (a' := ?_) #[true, false, false, false, false, false, false, false, false, false, false, false, false, false, false, false, false, false, false, false, false] rfl rfl (by kernel_rfl) (fun _ _ _ h => h) (Or.inl ⟨by rfl, ?_⟩) ?_ ?_
  rotate_left
  · intro w'
    go_simp
    with_reducible rfl
  rotate_left
  · simp only [Act.put, List.setIfInBounds_toArray, List.set_cons_zero, List.set_cons_succ, i64_w, i32_w]
    rfl
  refine pure_ (i := 5) (N := some 40) (v := ?_) (a' := ?_) #[true, false, false, false, false, true, false, false, false, false, false, false, false, false, false, false, false, false, false, false, false] rfl rfl (by kernel_rfl) (fun _ _ _ h => h) (Or.inl ⟨by rfl, ?_⟩) ?_ ?_
  rotate_left
  · intro w'
    go_simp
    with_reducible rfl
  rotate_left
  · simp only [Act.put, List.setIfInBounds_toArray, List.set_cons_zero, List.set_cons_succ, i64_w, i32_w]
    rfl
  refine pure_ (i := 10) (N := some 45) (v := ?_) (a' := ?_) #[true, false, false, false, false, true, false, false, false, false, true, false, false, false, false, false, false, false, false, false, false] rfl rfl (by kernel_rfl) (fun _ _ _ h => h) (Or.inl ⟨by rfl, ?_⟩) ?_ ?_
  rotate_left
  · intro w'
    go_simp
    with_reducible rfl
  rotate_left
  · simp only [Act.put, List.setIfInBounds_toArray, List.set_cons_zero, List.set_cons_succ, i64_w, i32_w]
    rfl
  refine pure_ (i := 15) (N := some 50) (v := ?_) (a' := ?_) #[true, false, false, false, false, true, false, false, false, false, true, false, false, false, false, true, false, false, false, false, false] rfl rfl (by kernel_rfl) (fun _ _ _ h => h) (Or.inl ⟨by rfl, ?_⟩) ?_ ?_
  rotate_left
  · intro w'
    go_simp
    with_reducible rfl
  rotate_left
  · simp only [Act.put, List.setIfInBounds_toArray, List.set_cons_zero, List.set_cons_succ, i64_w, i32_w]
    rfl
  refine take_ (i := 1) (N := some 36) (v := ?_) (a' := ?_) #[true, true, false, false, false, true, false, false, false, false, true, false, false, false, false, true, false, false, false, false, false] rfl rfl (by kernel_rfl) (fun _ _ _ h => h) (Or.inl ⟨by rfl, ?_⟩) hHeld ?_ ?_
  rotate_left
  · rintro w' ⟨s0, s1, s2, s3⟩
    go_simp
    with_reducible rfl
  rotate_left
  · simp only [Act.put, List.setIfInBounds_toArray, List.set_cons_zero, List.set_cons_succ, i64_w, i32_w]
    rfl
  refine take_ (i := 6) (N := some 41) (v := ?_) (a' := ?_) #[true, true, false, false, false, true, true, false, false, false, true, false, false, false, false, true, false, false, false, false, false] rfl rfl (by kernel_rfl) (fun _ _ _ h => h) (Or.inl ⟨by rfl, ?_⟩) hHeld ?_ ?_
  rotate_left
  · rintro w' ⟨s0, s1, s2, s3⟩
    go_simp
    with_reducible rfl
  rotate_left
  · simp only [Act.put, List.setIfInBounds_toArray, List.set_cons_zero, List.set_cons_succ, i64_w, i32_w]
    rfl
  refine take_ (i := 11) (N := some 46) (v := ?_) (a' := ?_) #[true, true, false, false, false, true, true, false, false, false, true, true, false, false, false, true, false, false, false, false, false] rfl rfl (by kernel_rfl) (fun _ _ _ h => h) (Or.inl ⟨by rfl, ?_⟩) hHeld ?_ ?_
  rotate_left
  · rintro w' ⟨s0, s1, s2, s3⟩
    go_simp
    with_reducible rfl
  rotate_left
  · simp only [Act.put, List.setIfInBounds_toArray, List.set_cons_zero, List.set_cons_succ, i64_w, i32_w]
    rfl
  refine take_ (i := 16) (N := some 51) (v := ?_) (a' := ?_) #[true, true, false, false, false, true, true, false, false, false, true, true, false, false, false, true, true, false, false, false, false] rfl rfl (by kernel_rfl) (fun _ _ _ h => h) (Or.inl ⟨by rfl, ?_⟩) hHeld ?_ ?_
  rotate_left
  · rintro w' ⟨s0, s1, s2, s3⟩
    go_simp
    with_reducible rfl
  rotate_left
  · simp only [Act.put, List.setIfInBounds_toArray, List.set_cons_zero, List.set_cons_succ, i64_w, i32_w]
    rfl
  refine one_ (i := 2) (N := some 37) #[true, true, true, false, false, true, true, false, false, false, true, true, false, false, false, true, true, false, false, false, false] rfl rfl (by kernel_rfl) (by decide) (fun K hK => ?_)
  refine goes_ Tryd.func8 (by kernel_rfl) rfl #[.float .f64 p1] (by rfl) rfl rfl (by simp only [List.map_toArray, List.map_cons, List.map_nil]; rfl) ?_
  with_reducible refine (HW1.out _ (HT.out.below HB3.out)).mono ?_
  rintro e w4 ⟨rfl, h4⟩
  refine ⟨_, rfl, ?_⟩
  have HB4 := Lib.hid (HB3.out.trans (h4.mono HB3.out.size))
  have KB4 := Lib.hid (KB3.out.below h4 KB3.out.lt)
  have E4 := Lib.hid (E3.out.below h4 E3.out.lt)
  clear h4
  refine hK.out _ _ ⟨(KB4.out.cell 0).trans rfl, (KB4.out.cell 1).trans rfl, (KB4.out.cell 2).trans rfl, (KB4.out.cell 3).trans rfl⟩ (fun hHeld => ?_)
  clear hK K
  refine norm_ (a' := ?_) ?_ ?_
  rotate_left
  · show Act.put _ (some 37) _ = _
    simp only [Act.put, List.setIfInBounds_toArray, List.set_cons_zero, List.set_cons_succ, i64_w, i32_w]
    rfl
  refine pure_ (i := 3) (N := some 38) (v := ?_) (a' := ?_) #[true, true, true, true, false, true, true, false, false, false, true, true, false, false, false, true, true, false, false, false, false] rfl rfl (by kernel_rfl) (fun _ _ _ h => h) (Or.inl ⟨by rfl, ?_⟩) ?_ ?_
  rotate_left
  · intro w'
    go_simp
    with_reducible rfl
  rotate_left
  · simp only [Act.put, List.setIfInBounds_toArray, List.set_cons_zero, List.set_cons_succ, i64_w, i32_w]
    rfl
  refine pure_ (i := 4) (N := some 39) (v := ?_) (a' := ?_) #[true, true, true, true, true, true, true, false, false, false, true, true, false, false, false, true, true, false, false, false, false] rfl rfl (by kernel_rfl) (fun _ _ _ h => h) (Or.inl ⟨by rfl, ?_⟩) ?_ ?_
  rotate_left
  · intro w'
    go_simp
    with_reducible rfl
  rotate_left
  · simp only [Act.put, List.setIfInBounds_toArray, List.set_cons_zero, List.set_cons_succ, i64_w, i32_w]
    rfl
  refine one_ (i := 7) (N := some 42) #[true, true, true, true, true, true, true, true, false, false, true, true, false, false, false, true, true, false, false, false, false] rfl rfl (by kernel_rfl) (by decide) (fun K hK => ?_)
  refine goes_ Tryd.func8 (by kernel_rfl) rfl #[.float .f64 p2] (by rfl) rfl rfl (by simp only [List.map_toArray, List.map_cons, List.map_nil]; rfl) ?_
  with_reducible refine (HW2.out _ (HT.out.below HB4.out)).mono ?_
  rintro e w5 ⟨rfl, h5⟩
  refine ⟨_, rfl, ?_⟩
  have HB5 := Lib.hid (HB4.out.trans (h5.mono HB4.out.size))
  have KB5 := Lib.hid (KB4.out.below h5 KB4.out.lt)
  have E5 := Lib.hid (E4.out.below h5 E4.out.lt)
  clear h5
  refine hK.out _ _ ⟨(KB5.out.cell 0).trans rfl, (KB5.out.cell 1).trans rfl, (KB5.out.cell 2).trans rfl, (KB5.out.cell 3).trans rfl⟩ (fun hHeld => ?_)
  clear hK K
  refine norm_ (a' := ?_) ?_ ?_
  rotate_left
  · show Act.put _ (some 42) _ = _
    simp only [Act.put, List.setIfInBounds_toArray, List.set_cons_zero, List.set_cons_succ, i64_w, i32_w]
    rfl
  refine pure_ (i := 8) (N := some 43) (v := ?_) (a' := ?_) #[true, true, true, true, true, true, true, true, true, false, true, true, false, false, false, true, true, false, false, false, false] rfl rfl (by kernel_rfl) (fun _ _ _ h => h) (Or.inl ⟨by rfl, ?_⟩) ?_ ?_
  rotate_left
  · intro w'
    go_simp
    with_reducible rfl
  rotate_left
  · simp only [Act.put, List.setIfInBounds_toArray, List.set_cons_zero, List.set_cons_succ, i64_w, i32_w]
    rfl
  refine pure_ (i := 9) (N := some 44) (v := ?_) (a' := ?_) #[true, true, true, true, true, true, true, true, true, true, true, true, false, false, false, true, true, false, false, false, false] rfl rfl (by kernel_rfl) (fun _ _ _ h => h) (Or.inl ⟨by rfl, ?_⟩) ?_ ?_
  rotate_left
  · intro w'
    go_simp
    with_reducible rfl
  rotate_left
  · simp only [Act.put, List.setIfInBounds_toArray, List.set_cons_zero, List.set_cons_succ, i64_w, i32_w]
    rfl
  refine one_ (i := 12) (N := some 47) #[true, true, true, true, true, true, true, true, true, true, true, true, true, false, false, true, true, false, false, false, false] rfl rfl (by kernel_rfl) (by decide) (fun K hK => ?_)
  refine goes_ Tryd.func8 (by kernel_rfl) rfl #[.float .f64 p3] (by rfl) rfl rfl (by simp only [List.map_toArray, List.map_cons, List.map_nil]; rfl) ?_
  with_reducible refine (HW3.out _ (HT.out.below HB5.out)).mono ?_
  rintro e w6 ⟨rfl, h6⟩
  refine ⟨_, rfl, ?_⟩
  have HB6 := Lib.hid (HB5.out.trans (h6.mono HB5.out.size))
  have KB6 := Lib.hid (KB5.out.below h6 KB5.out.lt)
  have E6 := Lib.hid (E5.out.below h6 E5.out.lt)
  clear h6
  refine hK.out _ _ ⟨(KB6.out.cell 0).trans rfl, (KB6.out.cell 1).trans rfl, (KB6.out.cell 2).trans rfl, (KB6.out.cell 3).trans rfl⟩ (fun hHeld => ?_)
  clear hK K
  refine norm_ (a' := ?_) ?_ ?_
  rotate_left
  · show Act.put _ (some 47) _ = _
    simp only [Act.put, List.setIfInBounds_toArray, List.set_cons_zero, List.set_cons_succ, i64_w, i32_w]
    rfl
  refine pure_ (i := 13) (N := some 48) (v := ?_) (a' := ?_) #[true, true, true, true, true, true, true, true, true, true, true, true, true, true, false, true, true, false, false, false, false] rfl rfl (by kernel_rfl) (fun _ _ _ h => h) (Or.inl ⟨by rfl, ?_⟩) ?_ ?_
  rotate_left
  · intro w'
    go_simp
    with_reducible rfl
  rotate_left
  · simp only [Act.put, List.setIfInBounds_toArray, List.set_cons_zero, List.set_cons_succ, i64_w, i32_w]
    rfl
  refine pure_ (i := 14) (N := some 49) (v := ?_) (a' := ?_) #[true, true, true, true, true, true, true, true, true, true, true, true, true, true, true, true, true, false, false, false, false] rfl rfl (by kernel_rfl) (fun _ _ _ h => h) (Or.inl ⟨by rfl, ?_⟩) ?_ ?_
  rotate_left
  · intro w'
    go_simp
    with_reducible rfl
  rotate_left
  · simp only [Act.put, List.setIfInBounds_toArray, List.set_cons_zero, List.set_cons_succ, i64_w, i32_w]
    rfl
  refine one_ (i := 17) (N := some 52) #[true, true, true, true, true, true, true, true, true, true, true, true, true, true, true, true, true, true, false, false, false] rfl rfl (by kernel_rfl) (by decide) (fun K hK => ?_)
  refine goes_ Tryd.func8 (by kernel_rfl) rfl #[.float .f64 p4] (by rfl) rfl rfl (by simp only [List.map_toArray, List.map_cons, List.map_nil]; rfl) ?_
  with_reducible refine (HW4.out _ (HT.out.below HB6.out)).mono ?_
  rintro e w7 ⟨rfl, h7⟩
  refine ⟨_, rfl, ?_⟩
  have HB7 := Lib.hid (HB6.out.trans (h7.mono HB6.out.size))
  have KB7 := Lib.hid (KB6.out.below h7 KB6.out.lt)
  have E7 := Lib.hid (E6.out.below h7 E6.out.lt)
  clear h7
  refine hK.out _ _ ⟨(KB7.out.cell 0).trans rfl, (KB7.out.cell 1).trans rfl, (KB7.out.cell 2).trans rfl, (KB7.out.cell 3).trans rfl⟩ (fun hHeld => ?_)
  clear hK K
  refine norm_ (a' := ?_) ?_ ?_
  rotate_left
  · show Act.put _ (some 52) _ = _
    simp only [Act.put, List.setIfInBounds_toArray, List.set_cons_zero, List.set_cons_succ, i64_w, i32_w]
    rfl
  refine pure_ (i := 18) (N := some 53) (v := ?_) (a' := ?_) #[true, true, true, true, true, true, true, true, true, true, true, true, true, true, true, true, true, true, true, false, false] rfl rfl (by kernel_rfl) (fun _ _ _ h => h) (Or.inl ⟨by rfl, ?_⟩) ?_ ?_
  rotate_left
  · intro w'
    go_simp
    with_reducible rfl
  rotate_left
  · simp only [Act.put, List.setIfInBounds_toArray, List.set_cons_zero, List.set_cons_succ, i64_w, i32_w]
    rfl
  refine pure_ (i := 19) (N := some 54) (v := ?_) (a' := ?_) #[true, true, true, true, true, true, true, true, true, true, true, true, true, true, true, true, true, true, true, true, false] rfl rfl (by kernel_rfl) (fun _ _ _ h => h) (Or.inl ⟨by rfl, ?_⟩) ?_ ?_
  rotate_left
  · intro w'
    go_simp
    with_reducible rfl
  rotate_left
  · simp only [Act.put, List.setIfInBounds_toArray, List.set_cons_zero, List.set_cons_succ, i64_w, i32_w]
    rfl
  refine pure_ (i := 20) (N := some 5) (v := ?_) (a' := ?_) #[true, true, true, true, true, true, true, true, true, true, true, true, true, true, true, true, true, true, true, true, true] rfl rfl (by kernel_rfl) (fun _ _ _ h => h) (Or.inl ⟨by rfl, ?_⟩) ?_ ?_
  rotate_left
  · intro w'
    go_simp
    with_reducible rfl
  rotate_left
  · simp only [Act.put, List.setIfInBounds_toArray, List.set_cons_zero, List.set_cons_succ, i64_w, i32_w]
    rfl
  refine done_ (by kernel_rfl) ?_
  have q0 := E7.out.cell 0
  have q1 := E7.out.cell 1
  have q2 := E7.out.cell 2
  have q3 := E7.out.cell 3
  have q4 := E7.out.cell 4
  simp at q0 q1 q2 q3 q4
  go_wp2_with fail
  refine (HES.out _ (HT.out.below HB7.out)).mono ?_
  rintro e w8 ⟨rfl, h8⟩
  have HB8 := Lib.hid (HB7.out.trans (h8.mono HB7.out.size))
  clear h8 q0 q1 q2 q3 q4
  go_wp2
  go_ret
  exact ⟨congrArg (fun b => Ending.returned (Value.bool b)) (by first | rfl | simp | exact beq_self_eq_true _), HB8.out⟩

set_option maxHeartbeats 4000000 in
set_option maxRecDepth 100000 in
theorem elaw_not (a b c d : Nat) (ha : a < 18446744073709551616) (hb : b < 18446744073709551616) (hc : c < 18446744073709551616) (hd : d < 18446744073709551616) (w : World) (ht : FtTabs w hiT loT) :
    Calls Tryd.prog 6 #[.agg #[.bool false, .float .f64 a, .float .f64 b, .float .f64 c, .float .f64 d]] w fun e w' => e = .returned (.bool true) ∧ Below w.heap.size w w' := by
  have hA : Below w.heap.size w (w.alloc (.cells #[.bool false, .float .f64 a, .float .f64 b, .float .f64 c, .float .f64 d] 46)) := (Below.refl _ _).alloc (Nat.le_refl _) _
  have hB := hA.alloc (by simp) (.cells #[.float .f64 a, .float .f64 b, .float .f64 c, .float .f64 d] 44)
  have hC := hB.alloc (by simp; omega) (.cells #[.bool false, .float .f64 a, .float .f64 b, .float .f64 c, .float .f64 d] 46)
  have k0 := ((Blk.new w 46 #[.bool false, .float .f64 a, .float .f64 b, .float .f64 c, .float .f64 d]).alloc (.cells #[.float .f64 a, .float .f64 b, .float .f64 c, .float .f64 d] 44)).alloc (.cells #[.bool false, .float .f64 a, .float .f64 b, .float .f64 c, .float .f64 d] 46)
  have k1 := (Blk.new (w.alloc (.cells #[.bool false, .float .f64 a, .float .f64 b, .float .f64 c, .float .f64 d] 46)) 44 #[.float .f64 a, .float .f64 b, .float .f64 c, .float .f64 d]).alloc (.cells #[.bool false, .float .f64 a, .float .f64 b, .float .f64 c, .float .f64 d] 46)
  have k2 := Blk.new ((w.alloc (.cells #[.bool false, .float .f64 a, .float .f64 b, .float .f64 c, .float .f64 d] 46)).alloc (.cells #[.float .f64 a, .float .f64 b, .float .f64 c, .float .f64 d] 44)) 46 #[.bool false, .float .f64 a, .float .f64 b, .float .f64 c, .float .f64 d]
  rw [World.size_alloc] at k1
  rw [World.size_alloc, World.size_alloc] at k2
  have hfit := eFits_any false a b c d ha hb hc hd _ _ k2
  have HF := Lib.hid hfit
  have HC := Lib.hid hC
  have K0 := Lib.hid k0
  have K1 := Lib.hid k1
  have HT := Lib.hid ht
  clear hA hB hC k0 k1 k2 hfit ht
  go_enter Tryd.func6, Tryd.ntmps6
  go_wp2_with fail
  refine HF.out.mono ?_
  rintro e w1 ⟨r, rfl, hr, h1⟩
  have H1 := Lib.hid (HC.out.trans (h1.mono (by simp; omega)))
  have E1 := Lib.hid (K0.out.below h1 (by simp; omega))
  have B1 := Lib.hid (K1.out.below h1 (by simp))
  clear h1
  cases r
  · go_wp2
    go_ret
    exact ⟨rfl, H1.out⟩
  have q0 := E1.out.cell 0
  have q1 := E1.out.cell 1
  have q2 := E1.out.cell 2
  have q3 := E1.out.cell 3
  have q4 := E1.out.cell 4
  have x0 := B1.out.cell 0
  have x1 := B1.out.cell 1
  have x2 := B1.out.cell 2
  have x3 := B1.out.cell 3
  simp at q0 q1 q2 q3 q4 x0 x1 x2 x3
  go_wp2_with fail
  refine (minusZero_any a _).mono ?_
  rintro e w1 ⟨r, rfl, na, rfl⟩
  cases r
  case true =>
    go_wp2
    go_ret
    exact ⟨rfl, H1.out⟩
  go_wp2_with fail
  refine (minusZero_any b _).mono ?_
  rintro e w1 ⟨r, rfl, nb, rfl⟩
  cases r
  case true =>
    go_wp2
    go_ret
    exact ⟨rfl, H1.out⟩
  go_wp2_with fail
  refine (minusZero_any c _).mono ?_
  rintro e w1 ⟨r, rfl, nc, rfl⟩
  cases r
  case true =>
    go_wp2
    go_ret
    exact ⟨rfl, H1.out⟩
  go_wp2_with fail
  refine (minusZero_any d _).mono ?_
  rintro e w1 ⟨r, rfl, nd, rfl⟩
  cases r
  case true =>
    go_wp2
    go_ret
    exact ⟨rfl, H1.out⟩
  replace na : a ≠ 9223372036854775808 := by simpa using na
  replace nb : b ≠ 9223372036854775808 := by simpa using nb
  replace nc : c ≠ 9223372036854775808 := by simpa using nc
  replace nd : d ≠ 9223372036854775808 := by simpa using nd
  clear hr
  go_wp2_with fail
  refine (eMade_not a b c d _).mono ?_
  rintro e w2 ⟨rfl, h2⟩
  have H2 := Lib.hid (H1.out.trans (h2.mono H1.out.size))
  have E2 := Lib.hid (E1.out.below h2 E1.out.lt)
  clear h2 q0 q1 q2 q3 q4 x0 x1 x2 x3
  have hfd := field_box false 0 0 0 0
  have hes := fun (w : World) (_ : FtTabs w hiT loT) => EnvString_not a b c d w
  have hw1 := fun w ht => WriteNumber_any (0) hiT loT w ht (by decide)
  have z1 : (strOfNums (ftoaV hiT loT (0))).size ≤ 2000 := tB_len (0) (by decide)
  have hw2 := fun w ht => WriteNumber_any (0) hiT loT w ht (by decide)
  have z2 : (strOfNums (ftoaV hiT loT (0))).size ≤ 2000 := tB_len (0) (by decide)
  have hw3 := fun w ht => WriteNumber_any (0) hiT loT w ht (by decide)
  have z3 : (strOfNums (ftoaV hiT loT (0))).size ≤ 2000 := tB_len (0) (by decide)
  have hw4 := fun w ht => WriteNumber_any (0) hiT loT w ht (by decide)
  have z4 : (strOfNums (ftoaV hiT loT (0))).size ≤ 2000 := tB_len (0) (by decide)
  obtain ⟨T1, hT1⟩ : ∃ T, T = strOfNums (ftoaV hiT loT 0) := ⟨_, rfl⟩
  rw [← hT1] at hw1
  rw [← hT1] at z1
  have HES := Lib.hid hes
  have HW1 := Lib.hid hw1
  clear hes hw1 hw2 hw3 hw4
  clear hT1
  have hs1 : ¬ 9223372036854775807 < 9 + T1.size := by omega
  have hs2 : ¬ 9223372036854775807 < 9 + T1.size + 1 := by omega
  have hs3 : ¬ 9223372036854775807 < 9 + T1.size + 1 + T1.size := by omega
  have hs4 : ¬ 9223372036854775807 < 9 + T1.size + 1 + T1.size + 1 := by omega
  have hs5 : ¬ 9223372036854775807 < 9 + T1.size + 1 + T1.size + 1 + T1.size := by omega
  have hs6 : ¬ 9223372036854775807 < 9 + T1.size + 1 + T1.size + 1 + T1.size + 1 := by omega
  have hs7 : ¬ 9223372036854775807 < 9 + T1.size + 1 + T1.size + 1 + T1.size + 1 + T1.size := by omega
  have hs8 : ¬ 9223372036854775807 < 9 + T1.size + 1 + T1.size + 1 + T1.size + 1 + T1.size + 1 := by omega
  have KB3 := Lib.hid (Blk.drew (Blk.new w2 44 #[.float .f64 0, .float .f64 0, .float .f64 0, .float .f64 0]))
  have HB3 := Lib.hid (Below.drew (H2.out.alloc H2.out.size (.cells #[.float .f64 0, .float .f64 0, .float .f64 0, .float .f64 0] 44)))
  have E3 := Lib.hid (Blk.drew (E2.out.alloc (.cells #[.float .f64 0, .float .f64 0, .float .f64 0, .float .f64 0] 44)))
  go_wp2_with fail
  refine start_ (n := 21) (S := fun w' => w'.cell? ⟨w2.heap.size, 0, none⟩ = some (.float .f64 0) ∧ w'.cell? ⟨w2.heap.size, 1, none⟩ = some (.float .f64 0) ∧ w'.cell? ⟨w2.heap.size, 2, none⟩ = some (.float .f64 0) ∧ w'.cell? ⟨w2.heap.size, 3, none⟩ = some (.float .f64 0)) (ds := []) #[false, false, false, false, false, false, false, false, false, false, false, false, false, false, false, false, false, false, false, false, false] (by kernel_rfl) rfl rfl ⟨(KB3.out.cell 0).trans rfl, (KB3.out.cell 1).trans rfl, (KB3.out.cell 2).trans rfl, (KB3.out.cell 3).trans rfl⟩ (fun hHeld => ?_)
  refine pure_ (i := 0) (N := some 35) (v := ?_) (a' := ?_) #[true, false, false, false, false, false, false, false, false, false, false, false, false, false, false, false, false, false, false, false, false] rfl rfl (by kernel_rfl) (fun _ _ _ h => h) (Or.inl ⟨by rfl, ?_⟩) ?_ ?_
  rotate_left
  · intro w'
    go_simp
    with_reducible rfl
  rotate_left
  · simp only [Act.put, List.setIfInBounds_toArray, List.set_cons_zero, List.set_cons_succ, i64_w, i32_w]
    rfl
  refine pure_ (i := 5) (N := some 40) (v := ?_) (a' := ?_) #[true, false, false, false, false, true, false, false, false, false, false, false, false, false, false, false, false, false, false, false, false] rfl rfl (by kernel_rfl) (fun _ _ _ h => h) (Or.inl ⟨by rfl, ?_⟩) ?_ ?_
  rotate_left
  · intro w'
    go_simp
    with_reducible rfl
  rotate_left
  · simp only [Act.put, List.setIfInBounds_toArray, List.set_cons_zero, List.set_cons_succ, i64_w, i32_w]
    rfl
  refine pure_ (i := 10) (N := some 45) (v := ?_) (a' := ?_) #[true, false, false, false, false, true, false, false, false, false, true, false, false, false, false, false, false, false, false, false, false] rfl rfl (by kernel_rfl) (fun _ _ _ h => h) (Or.inl ⟨by rfl, ?_⟩) ?_ ?_
  rotate_left
  · intro w'
    go_simp
    with_reducible rfl
  rotate_left
  · simp only [Act.put, List.setIfInBounds_toArray, List.set_cons_zero, List.set_cons_succ, i64_w, i32_w]
    rfl
  refine pure_ (i := 15) (N := some 50) (v := ?_) (a' := ?_) #[true, false, false, false, false, true, false, false, false, false, true, false, false, false, false, true, false, false, false, false, false] rfl rfl (by kernel_rfl) (fun _ _ _ h => h) (Or.inl ⟨by rfl, ?_⟩) ?_ ?_
  rotate_left
  · intro w'
    go_simp
    with_reducible rfl
  rotate_left
  · simp only [Act.put, List.setIfInBounds_toArray, List.set_cons_zero, List.set_cons_succ, i64_w, i32_w]
    rfl
  refine take_ (i := 1) (N := some 36) (v := ?_) (a' := ?_) #[true, true, false, false, false, true, false, false, false, false, true, false, false, false, false, true, false, false, false, false, false] rfl rfl (by kernel_rfl) (fun _ _ _ h => h) (Or.inl ⟨by rfl, ?_⟩) hHeld ?_ ?_
  rotate_left
  · rintro w' ⟨s0, s1, s2, s3⟩
    go_simp
    with_reducible rfl
  rotate_left
  · simp only [Act.put, List.setIfInBounds_toArray, List.set_cons_zero, List.set_cons_succ, i64_w, i32_w]
    rfl
  refine take_ (i := 6) (N := some 41) (v := ?_) (a' := ?_) #[true, true, false, false, false, true, true, false, false, false, true, false, false, false, false, true, false, false, false, false, false] rfl rfl (by kernel_rfl) (fun _ _ _ h => h) (Or.inl ⟨by rfl, ?_⟩) hHeld ?_ ?_
  rotate_left
  · rintro w' ⟨s0, s1, s2, s3⟩
    go_simp
    with_reducible rfl
  rotate_left
  · simp only [Act.put, List.setIfInBounds_toArray, List.set_cons_zero, List.set_cons_succ, i64_w, i32_w]
    rfl
  refine take_ (i := 11) (N := some 46) (v := ?_) (a' := ?_) #[true, true, false, false, false, true, true, false, false, false, true, true, false, false, false, true, false, false, false, false, false] rfl rfl (by kernel_rfl) (fun _ _ _ h => h) (Or.inl ⟨by rfl, ?_⟩) hHeld ?_ ?_
  rotate_left
  · rintro w' ⟨s0, s1, s2, s3⟩
    go_simp
    with_reducible rfl
  rotate_left
  · simp only [Act.put, List.setIfInBounds_toArray, List.set_cons_zero, List.set_cons_succ, i64_w, i32_w]
    rfl
  refine take_ (i := 16) (N := some 51) (v := ?_) (a' := ?_) #[true, true, false, false, false, true, true, false, false, false, true, true, false, false, false, true, true, false, false, false, false] rfl rfl (by kernel_rfl) (fun _ _ _ h => h) (Or.inl ⟨by rfl, ?_⟩) hHeld ?_ ?_
  rotate_left
  · rintro w' ⟨s0, s1, s2, s3⟩
    go_simp
    with_reducible rfl
  rotate_left
  · simp only [Act.put, List.setIfInBounds_toArray, List.set_cons_zero, List.set_cons_succ, i64_w, i32_w]
    rfl
  refine one_ (i := 2) (N := some 37) #[true, true, true, false, false, true, true, false, false, false, true, true, false, false, false, true, true, false, false, false, false] rfl rfl (by kernel_rfl) (by decide) (fun K hK => ?_)
  refine goes_ Tryd.func8 (by kernel_rfl) rfl #[.float .f64 0] (by rfl) rfl rfl (by simp only [List.map_toArray, List.map_cons, List.map_nil]; rfl) ?_
  with_reducible refine (HW1.out _ (HT.out.below HB3.out)).mono ?_
  rintro e w4 ⟨rfl, h4⟩
  refine ⟨_, rfl, ?_⟩
  have HB4 := Lib.hid (HB3.out.trans (h4.mono HB3.out.size))
  have KB4 := Lib.hid (KB3.out.below h4 KB3.out.lt)
  have E4 := Lib.hid (E3.out.below h4 E3.out.lt)
  clear h4
  refine hK.out _ _ ⟨(KB4.out.cell 0).trans rfl, (KB4.out.cell 1).trans rfl, (KB4.out.cell 2).trans rfl, (KB4.out.cell 3).trans rfl⟩ (fun hHeld => ?_)
  clear hK K
  refine norm_ (a' := ?_) ?_ ?_
  rotate_left
  · show Act.put _ (some 37) _ = _
    simp only [Act.put, List.setIfInBounds_toArray, List.set_cons_zero, List.set_cons_succ, i64_w, i32_w]
    rfl
  refine pure_ (i := 3) (N := some 38) (v := ?_) (a' := ?_) #[true, true, true, true, false, true, true, false, false, false, true, true, false, false, false, true, true, false, false, false, false] rfl rfl (by kernel_rfl) (fun _ _ _ h => h) (Or.inl ⟨by rfl, ?_⟩) ?_ ?_
  rotate_left
  · intro w'
    go_simp
    with_reducible rfl
  rotate_left
  · simp only [Act.put, List.setIfInBounds_toArray, List.set_cons_zero, List.set_cons_succ, i64_w, i32_w]
    rfl
  refine pure_ (i := 4) (N := some 39) (v := ?_) (a' := ?_) #[true, true, true, true, true, true, true, false, false, false, true, true, false, false, false, true, true, false, false, false, false] rfl rfl (by kernel_rfl) (fun _ _ _ h => h) (Or.inl ⟨by rfl, ?_⟩) ?_ ?_
  rotate_left
  · intro w'
    go_simp
    with_reducible rfl
  rotate_left
  · simp only [Act.put, List.setIfInBounds_toArray, List.set_cons_zero, List.set_cons_succ, i64_w, i32_w]
    rfl
  refine one_ (i := 7) (N := some 42) #[true, true, true, true, true, true, true, true, false, false, true, true, false, false, false, true, true, false, false, false, false] rfl rfl (by kernel_rfl) (by decide) (fun K hK => ?_)
  refine goes_ Tryd.func8 (by kernel_rfl) rfl #[.float .f64 0] (by rfl) rfl rfl (by simp only [List.map_toArray, List.map_cons, List.map_nil]; rfl) ?_
  with_reducible refine (HW1.out _ (HT.out.below HB4.out)).mono ?_
  rintro e w5 ⟨rfl, h5⟩
  refine ⟨_, rfl, ?_⟩
  have HB5 := Lib.hid (HB4.out.trans (h5.mono HB4.out.size))
  have KB5 := Lib.hid (KB4.out.below h5 KB4.out.lt)
  have E5 := Lib.hid (E4.out.below h5 E4.out.lt)
  clear h5
  refine hK.out _ _ ⟨(KB5.out.cell 0).trans rfl, (KB5.out.cell 1).trans rfl, (KB5.out.cell 2).trans rfl, (KB5.out.cell 3).trans rfl⟩ (fun hHeld => ?_)
  clear hK K
  refine norm_ (a' := ?_) ?_ ?_
  rotate_left
  · show Act.put _ (some 42) _ = _
    simp only [Act.put, List.setIfInBounds_toArray, List.set_cons_zero, List.set_cons_succ, i64_w, i32_w]
    rfl
  refine pure_ (i := 8) (N := some 43) (v := ?_) (a' := ?_) #[true, true, true, true, true, true, true, true, true, false, true, true, false, false, false, true, true, false, false, false, false] rfl rfl (by kernel_rfl) (fun _ _ _ h => h) (Or.inl ⟨by rfl, ?_⟩) ?_ ?_
  rotate_left
  · intro w'
    go_simp
    with_reducible rfl
  rotate_left
  · simp only [Act.put, List.setIfInBounds_toArray, List.set_cons_zero, List.set_cons_succ, i64_w, i32_w]
    rfl
  refine pure_ (i := 9) (N := some 44) (v := ?_) (a' := ?_) #[true, true, true, true, true, true, true, true, true, true, true, true, false, false, false, true, true, false, false, false, false] rfl rfl (by kernel_rfl) (fun _ _ _ h => h) (Or.inl ⟨by rfl, ?_⟩) ?_ ?_
  rotate_left
  · intro w'
    go_simp
    with_reducible rfl
  rotate_left
  · simp only [Act.put, List.setIfInBounds_toArray, List.set_cons_zero, List.set_cons_succ, i64_w, i32_w]
    rfl
  refine one_ (i := 12) (N := some 47) #[true, true, true, true, true, true, true, true, true, true, true, true, true, false, false, true, true, false, false, false, false] rfl rfl (by kernel_rfl) (by decide) (fun K hK => ?_)
  refine goes_ Tryd.func8 (by kernel_rfl) rfl #[.float .f64 0] (by rfl) rfl rfl (by simp only [List.map_toArray, List.map_cons, List.map_nil]; rfl) ?_
  with_reducible refine (HW1.out _ (HT.out.below HB5.out)).mono ?_
  rintro e w6 ⟨rfl, h6⟩
  refine ⟨_, rfl, ?_⟩
  have HB6 := Lib.hid (HB5.out.trans (h6.mono HB5.out.size))
  have KB6 := Lib.hid (KB5.out.below h6 KB5.out.lt)
  have E6 := Lib.hid (E5.out.below h6 E5.out.lt)
  clear h6
  refine hK.out _ _ ⟨(KB6.out.cell 0).trans rfl, (KB6.out.cell 1).trans rfl, (KB6.out.cell 2).trans rfl, (KB6.out.cell 3).trans rfl⟩ (fun hHeld => ?_)
  clear hK K
  refine norm_ (a' := ?_) ?_ ?_
  rotate_left
  · show Act.put _ (some 47) _ = _
    simp only [Act.put, List.setIfInBounds_toArray, List.set_cons_zero, List.set_cons_succ, i64_w, i32_w]
    rfl
  refine pure_ (i := 13) (N := some 48) (v := ?_) (a' := ?_) #[true, true, true, true, true, true, true, true, true, true, true, true, true, true, false, true, true, false, false, false, false] rfl rfl (by kernel_rfl) (fun _ _ _ h => h) (Or.inl ⟨by rfl, ?_⟩) ?_ ?_
  rotate_left
  · intro w'
    go_simp
    with_reducible rfl
  rotate_left
  · simp only [Act.put, List.setIfInBounds_toArray, List.set_cons_zero, List.set_cons_succ, i64_w, i32_w]
    rfl
  refine pure_ (i := 14) (N := some 49) (v := ?_) (a' := ?_) #[true, true, true, true, true, true, true, true, true, true, true, true, true, true, true, true, true, false, false, false, false] rfl rfl (by kernel_rfl) (fun _ _ _ h => h) (Or.inl ⟨by rfl, ?_⟩) ?_ ?_
  rotate_left
  · intro w'
    go_simp
    with_reducible rfl
  rotate_left
  · simp only [Act.put, List.setIfInBounds_toArray, List.set_cons_zero, List.set_cons_succ, i64_w, i32_w]
    rfl
  refine one_ (i := 17) (N := some 52) #[true, true, true, true, true, true, true, true, true, true, true, true, true, true, true, true, true, true, false, false, false] rfl rfl (by kernel_rfl) (by decide) (fun K hK => ?_)
  refine goes_ Tryd.func8 (by kernel_rfl) rfl #[.float .f64 0] (by rfl) rfl rfl (by simp only [List.map_toArray, List.map_cons, List.map_nil]; rfl) ?_
  with_reducible refine (HW1.out _ (HT.out.below HB6.out)).mono ?_
  rintro e w7 ⟨rfl, h7⟩
  refine ⟨_, rfl, ?_⟩
  have HB7 := Lib.hid (HB6.out.trans (h7.mono HB6.out.size))
  have KB7 := Lib.hid (KB6.out.below h7 KB6.out.lt)
  have E7 := Lib.hid (E6.out.below h7 E6.out.lt)
  clear h7
  refine hK.out _ _ ⟨(KB7.out.cell 0).trans rfl, (KB7.out.cell 1).trans rfl, (KB7.out.cell 2).trans rfl, (KB7.out.cell 3).trans rfl⟩ (fun hHeld => ?_)
  clear hK K
  refine norm_ (a' := ?_) ?_ ?_
  rotate_left
  · show Act.put _ (some 52) _ = _
    simp only [Act.put, List.setIfInBounds_toArray, List.set_cons_zero, List.set_cons_succ, i64_w, i32_w]
    rfl
  refine pure_ (i := 18) (N := some 53) (v := ?_) (a' := ?_) #[true, true, true, true, true, true, true, true, true, true, true, true, true, true, true, true, true, true, true, false, false] rfl rfl (by kernel_rfl) (fun _ _ _ h => h) (Or.inl ⟨by rfl, ?_⟩) ?_ ?_
  rotate_left
  · intro w'
    go_simp
    with_reducible rfl
  rotate_left
  · simp only [Act.put, List.setIfInBounds_toArray, List.set_cons_zero, List.set_cons_succ, i64_w, i32_w]
    rfl
  refine pure_ (i := 19) (N := some 54) (v := ?_) (a' := ?_) #[true, true, true, true, true, true, true, true, true, true, true, true, true, true, true, true, true, true, true, true, false] rfl rfl (by kernel_rfl) (fun _ _ _ h => h) (Or.inl ⟨by rfl, ?_⟩) ?_ ?_
  rotate_left
  · intro w'
    go_simp
    with_reducible rfl
  rotate_left
  · simp only [Act.put, List.setIfInBounds_toArray, List.set_cons_zero, List.set_cons_succ, i64_w, i32_w]
    rfl
  refine pure_ (i := 20) (N := some 5) (v := ?_) (a' := ?_) #[true, true, true, true, true, true, true, true, true, true, true, true, true, true, true, true, true, true, true, true, true] rfl rfl (by kernel_rfl) (fun _ _ _ h => h) (Or.inl ⟨by rfl, ?_⟩) ?_ ?_
  rotate_left
  · intro w'
    go_simp
    with_reducible rfl
  rotate_left
  · simp only [Act.put, List.setIfInBounds_toArray, List.set_cons_zero, List.set_cons_succ, i64_w, i32_w]
    rfl
  refine done_ (by kernel_rfl) ?_
  have q0 := E7.out.cell 0
  have q1 := E7.out.cell 1
  have q2 := E7.out.cell 2
  have q3 := E7.out.cell 3
  have q4 := E7.out.cell 4
  simp at q0 q1 q2 q3 q4
  go_wp2_with fail
  refine (HES.out _ (HT.out.below HB7.out)).mono ?_
  rintro e w8 ⟨rfl, h8⟩
  have HB8 := Lib.hid (HB7.out.trans (h8.mono HB7.out.size))
  clear h8 q0 q1 q2 q3 q4
  go_wp2
  go_ret
  exact ⟨congrArg (fun b => Ending.returned (Value.bool b)) (by first | rfl | simp | exact beq_self_eq_true _), HB8.out⟩

end Go.Proofs.YtpbcfgehmalppaaDoor
