/- The law FnPointText: whatever the plain data, it returns true and turns nothing that was there. -/
import Derived.Test.YtpbcfgehmalppaaGreatDoorKN
import Derived.Test.YtpbcfgehmalppaaGreatDoorQPtx2
import Derived.Test.YtpbcfgehmalppaaGreatDoorQPtx1
namespace Go.Proofs.YtpbcfgehmalppaaGreatDoorW.QPt
open Go.RowKit Go.Proofs.YtpbcfgehmalppaaGreatDoorW.PrintWords Go.Proofs.YtpbcfgehmalppaaGreatDoorW.PrintLast Go.Proofs.YtpbcfgehmalppaaGreatDoorW.PrintMore Go.Proofs.YtpbcfgehmalppaaGreatDoor

theorem wkt_tells (t : S25) (hs : t.sz ≤ 1000000) (hf : fineT t) : Ev (fun k => spec_WriteWKT.f k t.f0 t.f1 t.f2 t.f3) (strOfNums (wktT t)) := by
  have hl := bodyT_len t.sz t (Nat.le_refl _) hf
  exact wkt_of_body t (by omega) (text_tells t.sz (by omega) t (Nat.le_refl _) hf)

set_option maxHeartbeats 4000000 in
set_option maxRecDepth 100000 in
theorem ptlaw_any {k d : Int} {ns : List Nat} {ks : List S25} {A KA : Option Addr} {c c' : Nat} (w : World) (hK : k25.K w ⟨k, d, ns, ks⟩ [.int .i64 k, .int .i64 d, .slice A ns.length c, .slice KA ks.length c'])
    (hns : Kd.C Kd.float w A ns.length ns) (hc : ns.length ≤ c) (hks : Kd.C k25 w KA ks.length ks) (hc' : ks.length ≤ c') (hb : bitsT ⟨k, d, ns, ks⟩) (hG : Glob w) :
    Calls Tryz.prog 3 #[.agg #[.int .i64 k, .int .i64 d, .slice A ns.length c, .slice KA ks.length c']] w fun e w' => e = .returned (.bool true) ∧ Below w.heap.size w w' := by
  have hgm := gm_of_kd _ _ (Nat.le_refl _) w _ hK hb
  have hgs : (toG ⟨k, d, ns, ks⟩).sz = 1 + ns.length + szs ks := by rw [toG_sz, sz_def]
  have hbx := Blk.new w 25 #[.int .i64 k, .int .i64 d, .slice A ns.length c, .slice KA ks.length c']
  have hg0 : Below w.heap.size w (w.alloc (.cells #[.int .i64 k, .int .i64 d, .slice A ns.length c, .slice KA ks.length c'] 25)) := (Below.refl _ _).alloc (Nat.le_refl _) _
  have hbits := ((bitsT_def _).1 hb).1
  simp only at hbits
  have HX := Lib.hid hbx
  have H0 := Lib.hid hg0
  have HGM := Lib.hid hgm
  have HGS := Lib.hid hgs
  have HNS := Lib.hid hns
  have HKS := Lib.hid hks
  have HBI := Lib.hid hbits
  have HGL := Lib.hid hG
  clear hbx hg0 hgm hgs hns hks hbits hG hK hb
  go_enter Tryz.func3, Tryz.ntmps3
  go_wp2_with fail
  refine (zzFits2_any k d A KA ns.length ks.length c c' _).mono ?_
  rintro e w1 ⟨b, rfl, h1⟩
  have H1 := Lib.hid (H0.out.trans (h1.mono (by simp)))
  have X1 := Lib.hid (HX.out.below h1 (by simp))
  clear h1
  cases b
  · go_wp2
    go_ret
    exact ⟨rfl, H1.out⟩
  have r0 := X1.out.cell 0
  have r1 := X1.out.cell 1
  have r2 := X1.out.cell 2
  have r3 := X1.out.cell 3
  simp at r0 r1 r2 r3
  go_wp2
  have H1 := Lib.hid (Below.drew H1.out)
  have X1 := Lib.hid (Blk.drew X1.out)
  refine start_ (n := 12) (S := fun w' => w'.cell? ⟨w.heap.size, 0, none⟩ = some (.int .i64 k) ∧ w'.cell? ⟨w.heap.size, 1, none⟩ = some (.int .i64 d) ∧ w'.cell? ⟨w.heap.size, 2, none⟩ = some (.slice A ns.length c) ∧ w'.cell? ⟨w.heap.size, 3, none⟩ = some (.slice KA ks.length c')) (ds := []) #[false, false, false, false, false, false, false, false, false, false, false, false] (by kernel_rfl) rfl rfl ⟨(X1.out.cell 0).trans rfl, (X1.out.cell 1).trans rfl, (X1.out.cell 2).trans rfl, (X1.out.cell 3).trans rfl⟩ (fun hHeld => ?_)
  refine take_ (i := 0) (N := some 6) (v := ?_) (a' := ?_) #[true, false, false, false, false, false, false, false, false, false, false, false] rfl rfl (by kernel_rfl) (fun _ _ _ h => h) (Or.inl ⟨by rfl, ?_⟩) hHeld ?_ ?_
  rotate_left
  · rintro w' ⟨s0, s1, s2, s3⟩
    go_simp
    with_reducible rfl
  rotate_left
  · simp only [Act.put, List.setIfInBounds_toArray, List.set_cons_zero, List.set_cons_succ, i64_w, i32_w]
    rfl
  refine one_ (i := 1) (N := some 7) #[true, true, false, false, false, false, false, false, false, false, false, false] rfl rfl (by kernel_rfl) (by decide) (fun K hK => ?_)
  refine goes_ Tryz.func10 (by kernel_rfl) rfl #[.agg #[.int .i64 k, .int .i64 d, .slice A ns.length c, .slice KA ks.length c'], .int .i64 1] (by rfl) rfl rfl (by simp only [List.map_toArray, List.map_cons, List.map_nil]; rfl) ?_
  with_reducible refine (kIs_any 1 _ (HGM.out.keepB H1.out) H1.out.size).mono ?_
  rintro e w2 ⟨b, rfl, hk, h2⟩
  refine ⟨_, rfl, ?_⟩
  have H2 := Lib.hid (H1.out.trans (h2.mono H1.out.size))
  have X2 := Lib.hid (X1.out.below h2 X1.out.lt)
  clear h2
  refine hK.out _ _ ⟨(X2.out.cell 0).trans rfl, (X2.out.cell 1).trans rfl, (X2.out.cell 2).trans rfl, (X2.out.cell 3).trans rfl⟩ (fun hHeld => ?_)
  clear hK K
  refine norm_ (a' := ?_) ?_ ?_
  rotate_left
  · show Act.put _ (some 7) _ = _
    simp only [Act.put, List.setIfInBounds_toArray, List.set_cons_zero, List.set_cons_succ, i64_w, i32_w]
    rfl
  cases b
  · skip
    refine pure_ (i := 2) (N := some 8) (v := ?_) (a' := ?_) #[true, true, true, false, false, false, false, false, false, false, false, false] rfl rfl (by kernel_rfl) (fun _ _ _ h => h) (Or.inl ⟨by rfl, ?_⟩) ?_ ?_
    rotate_left
    · intro w'
      go_simp
      with_reducible rfl
    rotate_left
    · simp only [Act.put, List.setIfInBounds_toArray, List.set_cons_zero, List.set_cons_succ, i64_w, i32_w]
      rfl
    refine pure_ (i := 3) (N := some 9) (v := ?_) (a' := ?_) #[true, true, true, true, false, false, false, false, false, false, false, false] rfl rfl (by kernel_rfl) (fun _ _ _ h => h) (Or.inl ⟨by rfl, ?_⟩) ?_ ?_
    rotate_left
    · intro w'
      go_simp
      with_reducible rfl
    rotate_left
    · simp only [Act.put, List.setIfInBounds_toArray, List.set_cons_zero, List.set_cons_succ, i64_w, i32_w]
      rfl
    refine pure_ (i := 4) (N := some 10) (v := undef) (a' := ?_) #[true, true, true, true, true, false, false, false, false, false, false, false] rfl rfl (by kernel_rfl) (fun _ _ _ h => h) (Or.inr ⟨by rfl, rfl⟩) ?_ ?_
    rotate_left
    · simp only [Act.put, List.setIfInBounds_toArray, List.set_cons_zero, List.set_cons_succ, i64_w, i32_w]
      rfl
    refine pure_ (i := 5) (N := some 11) (v := undef) (a' := ?_) #[true, true, true, true, true, true, false, false, false, false, false, false] rfl rfl (by kernel_rfl) (fun _ _ _ h => h) (Or.inr ⟨by rfl, rfl⟩) ?_ ?_
    rotate_left
    · simp only [Act.put, List.setIfInBounds_toArray, List.set_cons_zero, List.set_cons_succ, i64_w, i32_w]
      rfl
    refine pure_ (i := 6) (N := some 12) (v := undef) (a' := ?_) #[true, true, true, true, true, true, true, false, false, false, false, false] rfl rfl (by kernel_rfl) (fun _ _ _ h => h) (Or.inr ⟨by rfl, rfl⟩) ?_ ?_
    rotate_left
    · simp only [Act.put, List.setIfInBounds_toArray, List.set_cons_zero, List.set_cons_succ, i64_w, i32_w]
      rfl
    refine pure_ (i := 7) (N := some 13) (v := undef) (a' := ?_) #[true, true, true, true, true, true, true, true, false, false, false, false] rfl rfl (by kernel_rfl) (fun _ _ _ h => h) (Or.inr ⟨by rfl, rfl⟩) ?_ ?_
    rotate_left
    · simp only [Act.put, List.setIfInBounds_toArray, List.set_cons_zero, List.set_cons_succ, i64_w, i32_w]
      rfl
    refine pure_ (i := 8) (N := some 14) (v := undef) (a' := ?_) #[true, true, true, true, true, true, true, true, true, false, false, false] rfl rfl (by kernel_rfl) (fun _ _ _ h => h) (Or.inr ⟨by rfl, rfl⟩) ?_ ?_
    rotate_left
    · simp only [Act.put, List.setIfInBounds_toArray, List.set_cons_zero, List.set_cons_succ, i64_w, i32_w]
      rfl
    refine pure_ (i := 9) (N := some 15) (v := undef) (a' := ?_) #[true, true, true, true, true, true, true, true, true, true, false, false] rfl rfl (by kernel_rfl) (fun _ _ _ h => h) (Or.inr ⟨by rfl, rfl⟩) ?_ ?_
    rotate_left
    · simp only [Act.put, List.setIfInBounds_toArray, List.set_cons_zero, List.set_cons_succ, i64_w, i32_w]
      rfl
    refine pure_ (i := 10) (N := some 16) (v := ?_) (a' := ?_) #[true, true, true, true, true, true, true, true, true, true, true, false] rfl rfl (by kernel_rfl) (fun _ _ _ h => h) (Or.inl ⟨by rfl, ?_⟩) ?_ ?_
    rotate_left
    · intro w'
      go_simp
      with_reducible rfl
    rotate_left
    · simp only [Act.put, List.setIfInBounds_toArray, List.set_cons_zero, List.set_cons_succ, i64_w, i32_w]
      rfl
    refine pure_ (i := 11) (N := some 2) (v := ?_) (a' := ?_) #[true, true, true, true, true, true, true, true, true, true, true, true] rfl rfl (by kernel_rfl) (fun _ _ _ h => h) (Or.inl ⟨by rfl, ?_⟩) ?_ ?_
    rotate_left
    · intro w'
      go_simp
      with_reducible rfl
    rotate_left
    · simp only [Act.put, List.setIfInBounds_toArray, List.set_cons_zero, List.set_cons_succ, i64_w, i32_w]
      rfl
    refine done_ (by kernel_rfl) ?_
    go_wp2
    go_ret
    exact ⟨rfl, H2.out⟩
  obtain ⟨rfl, hsz⟩ := hk rfl
  rw [HGS.out] at hsz
  have hn2 : ns.length ≤ 2000 := by omega
  clear hk hsz
  have q0 : 0 ≤ d % 4 := by omega
  have q1 : d % 4 ≤ 3 := by omega
  obtain ⟨N1, hp⟩ := point_tells d ns ks (by omega) HBI.out
  have hcl : (ns.take (cutT d ns.length)).length = cutT d ns.length := by
    rw [List.length_take]
    unfold cutT
    split <;> omega
  have hft : fineT ⟨1, d % 4, ns.take (cutT d ns.length), []⟩ := by
    rw [fineT_def]
    exact ⟨⟨q0, q1⟩, fun b hb => HBI.out b (List.mem_of_mem_take hb), fun u hu => by cases hu⟩
  obtain ⟨N2, hw⟩ := wkt_tells ⟨1, d % 4, ns.take (cutT d ns.length), []⟩ (by
    rw [sz_def]
    simp only [hcl, szs]
    unfold cutT
    split <;> omega) hft
  have P1 := Lib.hid (hp N1 (Nat.le_refl _))
  have P2 := Lib.hid (hw N2 (Nat.le_refl _))
  clear hp hw hcl hft
  generalize strOfNums (wktT ⟨1, d % 4, ns.take (cutT d ns.length), []⟩) = T at *
  refine pure_ (i := 2) (N := some 8) (v := ?_) (a' := ?_) #[true, true, true, false, false, false, false, false, false, false, false, false] rfl rfl (by kernel_rfl) (fun _ _ _ h => h) (Or.inl ⟨by rfl, ?_⟩) ?_ ?_
  rotate_left
  · intro w'
    go_simp
    with_reducible rfl
  rotate_left
  · simp only [Act.put, List.setIfInBounds_toArray, List.set_cons_zero, List.set_cons_succ, i64_w, i32_w]
    rfl
  refine pure_ (i := 3) (N := some 9) (v := ?_) (a' := ?_) #[true, true, true, true, false, false, false, false, false, false, false, false] rfl rfl (by kernel_rfl) (fun _ _ _ h => h) (Or.inl ⟨by rfl, ?_⟩) ?_ ?_
  rotate_left
  · intro w'
    go_simp
    with_reducible rfl
  rotate_left
  · simp only [Act.put, List.setIfInBounds_toArray, List.set_cons_zero, List.set_cons_succ, i64_w, i32_w]
    rfl
  refine take_ (i := 4) (N := some 10) (v := ?_) (a' := ?_) #[true, true, true, true, true, false, false, false, false, false, false, false] rfl rfl (by kernel_rfl) (fun _ _ _ h => h) (Or.inl ⟨by rfl, ?_⟩) hHeld ?_ ?_
  rotate_left
  · rintro w' ⟨s0, s1, s2, s3⟩
    go_simp
    with_reducible rfl
  rotate_left
  · simp only [Act.put, List.setIfInBounds_toArray, List.set_cons_zero, List.set_cons_succ, i64_w, i32_w]
    rfl
  refine take_ (i := 6) (N := some 12) (v := ?_) (a' := ?_) #[true, true, true, true, true, false, true, false, false, false, false, false] rfl rfl (by kernel_rfl) (fun _ _ _ h => h) (Or.inl ⟨by rfl, ?_⟩) hHeld ?_ ?_
  rotate_left
  · rintro w' ⟨s0, s1, s2, s3⟩
    go_simp
    with_reducible rfl
  rotate_left
  · simp only [Act.put, List.setIfInBounds_toArray, List.set_cons_zero, List.set_cons_succ, i64_w, i32_w]
    rfl
  refine one_ (i := 5) (N := some 11) #[true, true, true, true, true, true, true, false, false, false, false, false] rfl rfl (by kernel_rfl) (by decide) (fun K hK => ?_)
  refine goes_ Tryz.func11 (by kernel_rfl) rfl #[.agg #[.int .i64 1, .int .i64 d, .slice A ns.length c, .slice KA ks.length c']] (by rfl) rfl rfl (by simp only [List.map_toArray, List.map_cons, List.map_nil]; rfl) ?_
  with_reducible refine (impl_PointWKT.calls N1 1 d A c ns KA c' ks T _ (Kd.C_below HNS.out H2.out) hc (Kd.C_below HKS.out H2.out) hc' (Glob.below HGL.out H2.out) P1.out).mono ?_
  rintro e w3 ⟨rfl, h3⟩
  refine ⟨_, rfl, ?_⟩
  have H3 := Lib.hid (H2.out.trans (h3.mono H2.out.size))
  have X3 := Lib.hid (X2.out.below h3 X2.out.lt)
  clear h3
  refine hK.out _ _ ⟨(X3.out.cell 0).trans rfl, (X3.out.cell 1).trans rfl, (X3.out.cell 2).trans rfl, (X3.out.cell 3).trans rfl⟩ (fun hHeld => ?_)
  clear hK K
  refine norm_ (a' := ?_) ?_ ?_
  rotate_left
  · show Act.put _ (some 11) _ = _
    simp only [Act.put, List.setIfInBounds_toArray, List.set_cons_zero, List.set_cons_succ, i64_w, i32_w]
    rfl
  refine one_ (i := 7) (N := some 13) #[true, true, true, true, true, true, true, true, false, false, false, false] rfl rfl (by kernel_rfl) (by decide) (fun K hK => ?_)
  refine goes_ Tryz.func13 (by kernel_rfl) rfl #[.agg #[.int .i64 1, .int .i64 d, .slice A ns.length c, .slice KA ks.length c']] (by rfl) rfl rfl (by simp only [List.map_toArray, List.map_cons, List.map_nil]; rfl) ?_
  with_reducible refine (New_point (K := KA) (m := ks.length) (c' := c') d _ (Kd.C_below HNS.out H3.out) hc (by omega)).mono ?_
  rintro e w4 ⟨v4, rfl, h4, hb4⟩
  refine ⟨_, rfl, ?_⟩
  have H4 := Lib.hid (H3.out.trans (hb4.mono H3.out.size))
  have X4 := Lib.hid (X3.out.below hb4 X3.out.lt)
  obtain ⟨A4, c4, hv4, hc4, hA4⟩ : ∃ A4 c4, v4 = .slice A4 (ns.take (cutT d ns.length)).length c4 ∧ (ns.take (cutT d ns.length)).length ≤ c4 ∧ Kd.C Kd.float w4 A4 (ns.take (cutT d ns.length)).length (ns.take (cutT d ns.length)) := Kd.R_reads h4
  subst hv4
  have hW := (spec_WriteWKT.calls N2 1 (d % 4) A4 c4 _ none 0 [] T w4 hA4 hc4 (⟨rfl, by simp, by simp⟩) (Nat.le_refl _) (Glob.below HGL.out H4.out) P2.out)
  rw [List.length_nil] at hW
  have HW := Lib.hid hW
  clear hW h4 hb4 hA4 hc4
  generalize (ns.take (cutT d ns.length)).length = kk at *
  refine hK.out _ _ ⟨(X4.out.cell 0).trans rfl, (X4.out.cell 1).trans rfl, (X4.out.cell 2).trans rfl, (X4.out.cell 3).trans rfl⟩ (fun hHeld => ?_)
  clear hK K
  refine norm_ (a' := ?_) ?_ ?_
  rotate_left
  · show Act.put _ (some 13) _ = _
    simp only [Act.put, List.setIfInBounds_toArray, List.set_cons_zero, List.set_cons_succ, i64_w, i32_w]
    rfl
  refine one_ (i := 8) (N := some 14) #[true, true, true, true, true, true, true, true, true, false, false, false] rfl rfl (by kernel_rfl) (by decide) (fun K hK => ?_)
  refine goes_ Tryz.func12 (by kernel_rfl) rfl #[.agg #[.int .i64 1, .int .i64 (d % 4), .slice A4 kk c4, .slice none 0 0]] (by rfl) rfl rfl (by simp only [List.map_toArray, List.map_cons, List.map_nil]; rfl) ?_
  with_reducible refine (HW.out).mono ?_
  rintro e w5 ⟨rfl, hb5⟩
  refine ⟨_, rfl, ?_⟩
  have H5 := Lib.hid (H4.out.trans (hb5.mono H4.out.size))
  have X5 := Lib.hid (X4.out.below hb5 X4.out.lt)
  clear hb5
  refine hK.out _ _ ⟨(X5.out.cell 0).trans rfl, (X5.out.cell 1).trans rfl, (X5.out.cell 2).trans rfl, (X5.out.cell 3).trans rfl⟩ (fun hHeld => ?_)
  clear hK K
  refine norm_ (a' := ?_) ?_ ?_
  rotate_left
  · show Act.put _ (some 14) _ = _
    simp only [Act.put, List.setIfInBounds_toArray, List.set_cons_zero, List.set_cons_succ, i64_w, i32_w]
    rfl
  refine pure_ (i := 9) (N := some 15) (v := ?_) (a' := ?_) #[true, true, true, true, true, true, true, true, true, true, false, false] rfl rfl (by kernel_rfl) (fun _ _ _ h => h) (Or.inl ⟨by rfl, ?_⟩) ?_ ?_
  rotate_left
  · intro w'
    go_simp
    with_reducible rfl
  rotate_left
  · simp only [Act.put, List.setIfInBounds_toArray, List.set_cons_zero, List.set_cons_succ, i64_w, i32_w]
    rfl
  refine pure_ (i := 10) (N := some 16) (v := ?_) (a' := ?_) #[true, true, true, true, true, true, true, true, true, true, true, false] rfl rfl (by kernel_rfl) (fun _ _ _ h => h) (Or.inl ⟨by rfl, ?_⟩) ?_ ?_
  rotate_left
  · intro w'
    go_simp
    with_reducible rfl
  rotate_left
  · simp only [Act.put, List.setIfInBounds_toArray, List.set_cons_zero, List.set_cons_succ, i64_w, i32_w]
    rfl
  refine pure_ (i := 11) (N := some 2) (v := ?_) (a' := ?_) #[true, true, true, true, true, true, true, true, true, true, true, true] rfl rfl (by kernel_rfl) (fun _ _ _ h => h) (Or.inl ⟨by rfl, ?_⟩) ?_ ?_
  rotate_left
  · intro w'
    go_simp
    with_reducible rfl
  rotate_left
  · simp only [Act.put, List.setIfInBounds_toArray, List.set_cons_zero, List.set_cons_succ, i64_w, i32_w]
    rfl
  refine done_ (by kernel_rfl) ?_
  go_wp2
  go_ret
  have hq : (T.toList == T.toList) = true := by simp
  exact ⟨by first | rfl | exact congrArg (fun b => Ending.returned (Value.bool b)) hq, H5.out⟩

end Go.Proofs.YtpbcfgehmalppaaGreatDoorW.QPt
