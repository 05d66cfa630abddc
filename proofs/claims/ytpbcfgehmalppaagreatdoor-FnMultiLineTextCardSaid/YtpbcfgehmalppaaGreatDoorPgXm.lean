/- The law FnMultiLineText: whatever the plain data, it returns true and turns nothing that was there. -/
import Derived.Test.YtpbcfgehmalppaaGreatDoorPgWm
namespace Go.Proofs.YtpbcfgehmalppaaGreatDoor
open Go.RowKit Go.Proofs.YtpbcfgehmalppaaGreatDoorW.PrintLast

set_option maxHeartbeats 8000000 in
set_option maxRecDepth 100000 in
theorem FnMultiLineText_law {B : Nat} {k d : Int} {A KA : Option Addr} {n m c c' : Nat} {t : Gm} (hi lo : Nat → Int) (w : World) (ht : FtTabs w hi lo) (h : GmAt w B (.agg #[.int .i64 k, .int .i64 d, .slice A n c, .slice KA m c']) t) (hB : B ≤ w.heap.size) :
    Calls Tryz.prog 5 #[.agg #[.int .i64 k, .int .i64 d, .slice A n c, .slice KA m c']] w fun e w' => e = .returned (.bool true) ∧ Below w.heap.size w w' := by
  have hg0 : Below w.heap.size w (w.alloc (.cells #[.int .i64 k, .int .i64 d, .slice A n c, .slice KA m c'] 25)) := (Below.refl _ _).alloc (Nat.le_refl _) _
  have hbox := Blk.new w 25 #[.int .i64 k, .int .i64 d, .slice A n c, .slice KA m c']
  have HX := Lib.hid hbox
  have H0 := Lib.hid hg0
  have HT := Lib.hid ht
  have HGM := Lib.hid h
  clear hbox hg0 ht h
  go_enter Tryz.func5, Tryz.ntmps5
  go_wp2_with fail
  refine (zzFits2_any k d A KA n m c c' _).mono ?_
  rintro e w1 ⟨b, rfl, h1⟩
  have H1 := Lib.hid (H0.out.trans (h1.mono (by simp)))
  have X1 := Lib.hid (HX.out.below h1 (by simp))
  clear h1
  cases b
  · go_wp2
    go_ret
    exact ⟨rfl, H1.out⟩
  have r0 := X1.out.cell 0
  have r1 := X1.out.cell 1
  have r2 := X1.out.cell 2
  have r3 := X1.out.cell 3
  simp at r0 r1 r2 r3
  go_wp2
  have H1 := Lib.hid (Below.drew H1.out)
  have X1 := Lib.hid (Blk.drew X1.out)
  refine start_ (n := 12) (S := fun w' => w'.cell? ⟨w.heap.size, 0, none⟩ = some (.int .i64 k) ∧ w'.cell? ⟨w.heap.size, 1, none⟩ = some (.int .i64 d) ∧ w'.cell? ⟨w.heap.size, 2, none⟩ = some (.slice A n c) ∧ w'.cell? ⟨w.heap.size, 3, none⟩ = some (.slice KA m c')) (ds := []) #[false, false, false, false, false, false, false, false, false, false, false, false] (by kernel_rfl) rfl rfl ⟨(X1.out.cell 0).trans rfl, (X1.out.cell 1).trans rfl, (X1.out.cell 2).trans rfl, (X1.out.cell 3).trans rfl⟩ (fun hHeld => ?_)
  refine take_ (i := 0) (N := some 6) (v := ?_) (a' := ?_) #[true, false, false, false, false, false, false, false, false, false, false, false] rfl rfl (by kernel_rfl) (fun _ _ _ h => h) (Or.inl ⟨by rfl, ?_⟩) hHeld ?_ ?_
  rotate_left
  · rintro w' ⟨s0, s1, s2, s3⟩
    go_simp
    with_reducible rfl
  rotate_left
  · simp only [Act.put, List.setIfInBounds_toArray, List.set_cons_zero, List.set_cons_succ]
    rfl
  refine one_ (i := 1) (N := some 7) #[true, true, false, false, false, false, false, false, false, false, false, false] rfl rfl (by kernel_rfl) (by decide) (fun K hK => ?_)
  refine goes_ Tryz.func10 (by kernel_rfl) rfl #[.agg #[.int .i64 k, .int .i64 d, .slice A n c, .slice KA m c'], .int .i64 5] (by rfl) rfl rfl (by simp only [List.map_toArray, List.map_cons, List.map_nil]; rfl) ?_
  with_reducible refine (kIs_any 5 _ (HGM.out.keepB (H1.out.mono hB)) (Nat.le_trans hB H1.out.size)).mono ?_
  rintro e w2 ⟨b, rfl, hk, h2⟩
  refine ⟨_, rfl, ?_⟩
  have H2 := Lib.hid (H1.out.trans (h2.mono H1.out.size))
  have X2 := Lib.hid (X1.out.below h2 X1.out.lt)
  clear h2
  refine hK.out _ _ ⟨(X2.out.cell 0).trans rfl, (X2.out.cell 1).trans rfl, (X2.out.cell 2).trans rfl, (X2.out.cell 3).trans rfl⟩ (fun hHeld => ?_)
  clear hK K
  refine norm_ (a' := ?_) ?_ ?_
  rotate_left
  · show Act.put _ (some 7) _ = _
    simp only [Act.put, List.setIfInBounds_toArray, List.set_cons_zero, List.set_cons_succ]
    rfl
  cases b
  · skip
    refine pure_ (i := 2) (N := some 8) (v := ?_) (a' := ?_) #[true, true, true, false, false, false, false, false, false, false, false, false] rfl rfl (by kernel_rfl) (fun _ _ _ h => h) (Or.inl ⟨by rfl, ?_⟩) ?_ ?_
    rotate_left
    · intro w'
      go_simp
      with_reducible rfl
    rotate_left
    · simp only [Act.put, List.setIfInBounds_toArray, List.set_cons_zero, List.set_cons_succ]
      rfl
    refine pure_ (i := 3) (N := some 9) (v := ?_) (a' := ?_) #[true, true, true, true, false, false, false, false, false, false, false, false] rfl rfl (by kernel_rfl) (fun _ _ _ h => h) (Or.inl ⟨by rfl, ?_⟩) ?_ ?_
    rotate_left
    · intro w'
      go_simp
      with_reducible rfl
    rotate_left
    · simp only [Act.put, List.setIfInBounds_toArray, List.set_cons_zero, List.set_cons_succ]
      rfl
    refine pure_ (i := 4) (N := some 10) (v := undef) (a' := ?_) #[true, true, true, true, true, false, false, false, false, false, false, false] rfl rfl (by kernel_rfl) (fun _ _ _ h => h) (Or.inr ⟨by rfl, rfl⟩) ?_ ?_
    rotate_left
    · simp only [Act.put, List.setIfInBounds_toArray, List.set_cons_zero, List.set_cons_succ]
      rfl
    refine pure_ (i := 5) (N := some 11) (v := undef) (a' := ?_) #[true, true, true, true, true, true, false, false, false, false, false, false] rfl rfl (by kernel_rfl) (fun _ _ _ h => h) (Or.inr ⟨by rfl, rfl⟩) ?_ ?_
    rotate_left
    · simp only [Act.put, List.setIfInBounds_toArray, List.set_cons_zero, List.set_cons_succ]
      rfl
    refine pure_ (i := 6) (N := some 12) (v := undef) (a' := ?_) #[true, true, true, true, true, true, true, false, false, false, false, false] rfl rfl (by kernel_rfl) (fun _ _ _ h => h) (Or.inr ⟨by rfl, rfl⟩) ?_ ?_
    rotate_left
    · simp only [Act.put, List.setIfInBounds_toArray, List.set_cons_zero, List.set_cons_succ]
      rfl
    refine pure_ (i := 7) (N := some 13) (v := undef) (a' := ?_) #[true, true, true, true, true, true, true, true, false, false, false, false] rfl rfl (by kernel_rfl) (fun _ _ _ h => h) (Or.inr ⟨by rfl, rfl⟩) ?_ ?_
    rotate_left
    · simp only [Act.put, List.setIfInBounds_toArray, List.set_cons_zero, List.set_cons_succ]
      rfl
    refine pure_ (i := 8) (N := some 14) (v := undef) (a' := ?_) #[true, true, true, true, true, true, true, true, true, false, false, false] rfl rfl (by kernel_rfl) (fun _ _ _ h => h) (Or.inr ⟨by rfl, rfl⟩) ?_ ?_
    rotate_left
    · simp only [Act.put, List.setIfInBounds_toArray, List.set_cons_zero, List.set_cons_succ]
      rfl
    refine pure_ (i := 9) (N := some 15) (v := undef) (a' := ?_) #[true, true, true, true, true, true, true, true, true, true, false, false] rfl rfl (by kernel_rfl) (fun _ _ _ h => h) (Or.inr ⟨by rfl, rfl⟩) ?_ ?_
    rotate_left
    · simp only [Act.put, List.setIfInBounds_toArray, List.set_cons_zero, List.set_cons_succ]
      rfl
    refine pure_ (i := 10) (N := some 16) (v := ?_) (a' := ?_) #[true, true, true, true, true, true, true, true, true, true, true, false] rfl rfl (by kernel_rfl) (fun _ _ _ h => h) (Or.inl ⟨by rfl, ?_⟩) ?_ ?_
    rotate_left
    · intro w'
      go_simp
      with_reducible rfl
    rotate_left
    · simp only [Act.put, List.setIfInBounds_toArray, List.set_cons_zero, List.set_cons_succ]
      rfl
    refine pure_ (i := 11) (N := some 2) (v := ?_) (a' := ?_) #[true, true, true, true, true, true, true, true, true, true, true, true] rfl rfl (by kernel_rfl) (fun _ _ _ h => h) (Or.inl ⟨by rfl, ?_⟩) ?_ ?_
    rotate_left
    · intro w'
      go_simp
      with_reducible rfl
    rotate_left
    · simp only [Act.put, List.setIfInBounds_toArray, List.set_cons_zero, List.set_cons_succ]
      rfl
    refine done_ (by kernel_rfl) ?_
    go_wp2
    go_ret
    exact ⟨rfl, H2.out⟩
  obtain ⟨rfl, hsz⟩ := hk rfl
  have hkk : t.k = 5 := gmAt_k HGM.out
  have hok := (ok_newT t (by omega)).2.2
  have hkd := kind_newT t
  have hnp := np_newT t (by omega)
  have HKK := Lib.hid hkk
  have HOK := Lib.hid hok
  have HKD := Lib.hid hkd
  clear hk hkk hok hkd
  refine pure_ (i := 2) (N := some 8) (v := ?_) (a' := ?_) #[true, true, true, false, false, false, false, false, false, false, false, false] rfl rfl (by kernel_rfl) (fun _ _ _ h => h) (Or.inl ⟨by rfl, ?_⟩) ?_ ?_
  rotate_left
  · intro w'
    go_simp
    with_reducible rfl
  rotate_left
  · simp only [Act.put, List.setIfInBounds_toArray, List.set_cons_zero, List.set_cons_succ]
    rfl
  refine pure_ (i := 3) (N := some 9) (v := ?_) (a' := ?_) #[true, true, true, true, false, false, false, false, false, false, false, false] rfl rfl (by kernel_rfl) (fun _ _ _ h => h) (Or.inl ⟨by rfl, ?_⟩) ?_ ?_
  rotate_left
  · intro w'
    go_simp
    with_reducible rfl
  rotate_left
  · simp only [Act.put, List.setIfInBounds_toArray, List.set_cons_zero, List.set_cons_succ]
    rfl
  refine take_ (i := 4) (N := some 10) (v := ?_) (a' := ?_) #[true, true, true, true, true, false, false, false, false, false, false, false] rfl rfl (by kernel_rfl) (fun _ _ _ h => h) (Or.inl ⟨by rfl, ?_⟩) hHeld ?_ ?_
  rotate_left
  · rintro w' ⟨s0, s1, s2, s3⟩
    go_simp
    with_reducible rfl
  rotate_left
  · simp only [Act.put, List.setIfInBounds_toArray, List.set_cons_zero, List.set_cons_succ]
    rfl
  refine take_ (i := 6) (N := some 12) (v := ?_) (a' := ?_) #[true, true, true, true, true, false, true, false, false, false, false, false] rfl rfl (by kernel_rfl) (fun _ _ _ h => h) (Or.inl ⟨by rfl, ?_⟩) hHeld ?_ ?_
  rotate_left
  · rintro w' ⟨s0, s1, s2, s3⟩
    go_simp
    with_reducible rfl
  rotate_left
  · simp only [Act.put, List.setIfInBounds_toArray, List.set_cons_zero, List.set_cons_succ]
    rfl
  refine one_ (i := 5) (N := some 11) #[true, true, true, true, true, true, true, false, false, false, false, false] rfl rfl (by kernel_rfl) (by decide) (fun K hK => ?_)
  refine goes_ Tryz.func16 (by kernel_rfl) rfl #[.agg #[.int .i64 5, .int .i64 d, .slice A n c, .slice KA m c']] (by rfl) rfl rfl (by simp only [List.map_toArray, List.map_cons, List.map_nil]; rfl) ?_
  with_reducible refine (MultiLineWKT_G hi lo HGM.out HKK.out (by omega) _ (H2.out.mono hB) (Nat.le_trans hB H2.out.size) (HT.out.below H2.out)).mono ?_
  rintro e w3 ⟨rfl, h3⟩
  refine ⟨_, rfl, ?_⟩
  have H3 := Lib.hid (H2.out.trans (h3.mono H2.out.size))
  have X3 := Lib.hid (X2.out.below h3 X2.out.lt)
  clear h3
  refine hK.out _ _ ⟨(X3.out.cell 0).trans rfl, (X3.out.cell 1).trans rfl, (X3.out.cell 2).trans rfl, (X3.out.cell 3).trans rfl⟩ (fun hHeld => ?_)
  clear hK K
  refine norm_ (a' := ?_) ?_ ?_
  rotate_left
  · show Act.put _ (some 11) _ = _
    simp only [Act.put, List.setIfInBounds_toArray, List.set_cons_zero, List.set_cons_succ]
    rfl
  refine one_ (i := 7) (N := some 13) #[true, true, true, true, true, true, true, true, false, false, false, false] rfl rfl (by kernel_rfl) (by decide) (fun K hK => ?_)
  refine goes_ Tryz.func13 (by kernel_rfl) rfl #[.agg #[.int .i64 5, .int .i64 d, .slice A n c, .slice KA m c']] (by rfl) rfl rfl (by simp only [List.map_toArray, List.map_cons, List.map_nil]; rfl) ?_
  with_reducible refine (New_any HGM.out (by omega) _ (H3.out.mono hB) (Nat.le_trans hB H3.out.size)).mono ?_
  rintro e w4 ⟨cs4, rfl, h4, hb4⟩
  refine ⟨_, rfl, ?_⟩
  have H4 := Lib.hid (H3.out.trans (hb4.mono H3.out.size))
  have X4 := Lib.hid (X3.out.below hb4 X3.out.lt)
  have hW := WriteWKT_of (writeBody_any h4 HKD.out HOK.out (by omega) : BodyAt hi lo _ _ _ _) h4 HKD.out HOK.out (by omega) w4 (fun _ _ _ => rfl) (HT.out.below H4.out)
  obtain ⟨yk, yd, yA, yK, yn, ym, yc, yc', rfl⟩ := h4.shape
  have HW := Lib.hid hW
  clear hW h4 hb4
  refine hK.out _ _ ⟨(X4.out.cell 0).trans rfl, (X4.out.cell 1).trans rfl, (X4.out.cell 2).trans rfl, (X4.out.cell 3).trans rfl⟩ (fun hHeld => ?_)
  clear hK K
  refine norm_ (a' := ?_) ?_ ?_
  rotate_left
  · show Act.put _ (some 13) _ = _
    simp only [Act.put, List.setIfInBounds_toArray, List.set_cons_zero, List.set_cons_succ]
    rfl
  refine one_ (i := 8) (N := some 14) #[true, true, true, true, true, true, true, true, true, false, false, false] rfl rfl (by kernel_rfl) (by decide) (fun K hK => ?_)
  refine goes_ Tryz.func12 (by kernel_rfl) rfl #[.agg #[.int .i64 yk, .int .i64 yd, .slice yA yn yc, .slice yK ym yc']] (by rfl) rfl rfl (by simp only [List.map_toArray, List.map_cons, List.map_nil]; rfl) ?_
  with_reducible refine (HW.out).mono ?_
  rintro e w5 ⟨rfl, hb5⟩
  refine ⟨_, rfl, ?_⟩
  have H5 := Lib.hid (H4.out.trans (hb5.mono H4.out.size))
  have X5 := Lib.hid (X4.out.below hb5 X4.out.lt)
  clear hb5
  refine hK.out _ _ ⟨(X5.out.cell 0).trans rfl, (X5.out.cell 1).trans rfl, (X5.out.cell 2).trans rfl, (X5.out.cell 3).trans rfl⟩ (fun hHeld => ?_)
  clear hK K
  refine norm_ (a' := ?_) ?_ ?_
  rotate_left
  · show Act.put _ (some 14) _ = _
    simp only [Act.put, List.setIfInBounds_toArray, List.set_cons_zero, List.set_cons_succ]
    rfl
  refine pure_ (i := 9) (N := some 15) (v := ?_) (a' := ?_) #[true, true, true, true, true, true, true, true, true, true, false, false] rfl rfl (by kernel_rfl) (fun _ _ _ h => h) (Or.inl ⟨by rfl, ?_⟩) ?_ ?_
  rotate_left
  · intro w'
    go_simp
    with_reducible rfl
  rotate_left
  · simp only [Act.put, List.setIfInBounds_toArray, List.set_cons_zero, List.set_cons_succ]
    rfl
  refine pure_ (i := 10) (N := some 16) (v := ?_) (a' := ?_) #[true, true, true, true, true, true, true, true, true, true, true, false] rfl rfl (by kernel_rfl) (fun _ _ _ h => h) (Or.inl ⟨by rfl, ?_⟩) ?_ ?_
  rotate_left
  · intro w'
    go_simp
    with_reducible rfl
  rotate_left
  · simp only [Act.put, List.setIfInBounds_toArray, List.set_cons_zero, List.set_cons_succ]
    rfl
  refine pure_ (i := 11) (N := some 2) (v := ?_) (a' := ?_) #[true, true, true, true, true, true, true, true, true, true, true, true] rfl rfl (by kernel_rfl) (fun _ _ _ h => h) (Or.inl ⟨by rfl, ?_⟩) ?_ ?_
  rotate_left
  · intro w'
    go_simp
    with_reducible rfl
  rotate_left
  · simp only [Act.put, List.setIfInBounds_toArray, List.set_cons_zero, List.set_cons_succ]
    rfl
  refine done_ (by kernel_rfl) ?_
  go_wp2
  go_ret
  have hq : ((strOfNums (wktT hi lo (newT t))).toList == (strOfNums (wktT hi lo (newT t))).toList) = true := by simp
  exact ⟨by first | rfl | exact congrArg (fun b => Ending.returned (Value.bool b)) hq, H5.out⟩

end Go.Proofs.YtpbcfgehmalppaaGreatDoor
