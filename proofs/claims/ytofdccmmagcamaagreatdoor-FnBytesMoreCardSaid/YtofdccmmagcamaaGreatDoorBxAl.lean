import Derived.Test.YtofdccmmagcamaaGreatDoorMhS
import Derived.Test.YtofdccmmagcamaaGreatDoorWLast
import Derived.Deep.Cut
/- The law FnBytesMore: whatever the plain data and the tail, it returns true and turns nothing that was there. -/
set_option maxHeartbeats 8000000
set_option linter.unusedSimpArgs false
set_option linter.unusedVariables false
namespace Go.Proofs.YtofdccmmagcamaaGreatDoor
open Go.RowKit Go.Proofs.YtofdccmmagcamaaGreatDoorW.PrintLast

attribute [local go_sem] run_store_float

set_option maxRecDepth 100000 in
theorem FnBytesMore_law {B : Nat} {k d : Int} {A KA : Option Addr} {n m c c' : Nat} {t : Gm} {Ab : Option Addr} {nb cb : Nat} {bs : List Int} (w : World) (h : GmAt w B (.agg #[.int .i64 k, .int .i64 d, .slice A n c, .slice KA m c']) t) (hbs : Reads w B 1 Ab nb (bytesV bs)) (hB : B ≤ w.heap.size) :
    Calls Tryz.prog 6 #[.agg #[.int .i64 k, .int .i64 d, .slice A n c, .slice KA m c'], .slice Ab nb cb] w fun e w' => e = .returned (.bool true) ∧ Below w.heap.size w w' := by
  have hg0 : Below w.heap.size w (w.alloc (.cells #[.int .i64 k, .int .i64 d, .slice A n c, .slice KA m c'] 25)) := (Below.refl _ _).alloc (Nat.le_refl _) _
  have hbox := Blk.new w 25 #[.int .i64 k, .int .i64 d, .slice A n c, .slice KA m c']
  have HX := Hd hbox
  have H0 := Hd hg0
  have HGM := Hd h
  have hnt := numtB_at h
  have HBS := Hd hbs
  have HNB : Hid (bs.length = nb) := Hd (by have := hbs.1; rw [bytesV_length] at this; omega)
  clear hbs
  clear hbox hg0 h
  go_enter Tryz.func6, Tryz.ntmps6
  go_wp2_with fail
  refine (zzFits2_any k d A KA n m c c' _).mono ?_
  rintro e w1 ⟨b, rfl, h1⟩
  have H1 := Hd (H0.out.trans (h1.mono (by simp)))
  have X1 := Hd (HX.out.below h1 (by simp))
  clear h1
  cases b
  · go_wp2
    go_ret
    exact ⟨rfl, H1.out⟩
  have r0 := X1.out.cell 0
  have r1 := X1.out.cell 1
  have r2 := X1.out.cell 2
  have r3 := X1.out.cell 3
  simp at r0 r1 r2 r3
  by_cases hn : 2147483647 < nb
  · go_wp2
    go_ret
    exact ⟨rfl, H1.out⟩
  have hgs := gSmall_one ((HGM.out.keepB (H1.out.mono hB)).keepB ((Below.refl B w1).alloc (Nat.le_trans hB H1.out.size) (.cells #[.int .i64 k, .int .i64 d, .slice A n c, .slice KA m c'] 25))) (Blk.new w1 25 #[.int .i64 k, .int .i64 d, .slice A n c, .slice KA m c']) (by rw [World.size_alloc]; exact Nat.le_trans hB (Nat.le_succ_of_le H1.out.size))
  have HGS := Hd hgs
  clear hgs
  go_wp2_with fail
  refine HGS.out.mono ?_
  rintro e w2 ⟨b, rfl, hsz, h2⟩
  have H2 := Hd ((H1.out.alloc H1.out.size _).trans (h2.mono (by rw [World.size_alloc]; exact Nat.le_succ_of_le H1.out.size)))
  have X2 := Hd ((X1.out.alloc _).below h2 (by rw [World.size_alloc]; exact Nat.lt_succ_of_lt X1.out.lt))
  clear h2 HGS r0 r1 r2 r3
  cases b
  · go_wp2
    go_ret
    exact ⟨rfl, H2.out⟩
  replace hsz := hsz rfl
  have r0 := X2.out.cell 0
  have r1 := X2.out.cell 1
  have r2 := X2.out.cell 2
  have r3 := X2.out.cell 3
  simp at r0 r1 r2 r3
  have HNT := Hd hnt
  have HSZ := Hd hsz
  clear hnt hsz
  go_wp2_with fail
  refine (gAll_no HGM.out HSZ.out _ (H2.out.mono hB) (Nat.le_trans hB H2.out.size)).mono ?_
  rintro e w3 ⟨b, rfl, hno, h3⟩
  have H3 := Hd (H2.out.trans (h3.mono H2.out.size))
  have X3 := Hd (X2.out.below h3 X2.out.lt)
  clear h3 r0 r1 r2 r3
  cases b
  · go_wp2
    go_ret
    exact ⟨rfl, H3.out⟩
  replace hno := hno rfl
  by_cases hn2 : 2000 < nb
  · go_wp2
    go_ret
    exact ⟨rfl, H3.out⟩
  obtain ⟨hR, hG, hSG, hnp, hlen⟩ := tree_facts HSZ.out HNT.out hno
  have hN : ∀ W : World, Below w.heap.size w W → Calls Tryz.prog 12 #[.agg #[.int .i64 k, .int .i64 d, .slice A n c, .slice KA m c']] W fun e w' => ∃ cs' : List Value, e = .returned (.agg cs'.toArray) ∧ GmOn w' (fun b => W.heap.size ≤ b) cs' (newT t) ∧ Below W.heap.size W w' := fun W hb => New_any HGM.out (by have := HSZ.out; omega) W (hb.mono hB) (Nat.le_trans hB hb.size)
  have HN := Hd hN
  have HR := Hd hR
  have HG := Hd hG
  have HSG := Hd hSG
  have HNP := Hd hnp
  have HLEN := Hd hlen
  clear hN hR hG hSG hnp hlen hno
  generalize newT t = TT at *
  have r0 := X3.out.cell 0
  have r1 := X3.out.cell 1
  have r2 := X3.out.cell 2
  have r3 := X3.out.cell 3
  simp at r0 r1 r2 r3
  go_wp2_with fail
  refine (HN.out _ H3.out).mono ?_
  rintro e w4 ⟨cs4, rfl, g4, b4⟩
  obtain ⟨k4, d4, A4, K4, n4, m4, c4, e4, rfl⟩ := g4.shape
  have H4 := Hd (H3.out.trans (b4.mono H3.out.size))
  have X4 := Hd (X3.out.below b4 X3.out.lt)
  have G4 := Hd g4
  clear g4 b4 r0 r1 r2 r3
  go_wp2_with fail
  refine (WriteWKB_any HG.out G4.out (by have := HNP.out; omega)).mono ?_
  rintro e w5 ⟨v, rfl, hv, hvb, b5⟩
  have H5a := Hd (H4.out.trans (b5.mono H4.out.size))
  have X5a := Hd (X4.out.below b5 X4.out.lt)
  have HV := Hd hv
  have HVB := Hd hvb
  have HBS5 := Hd (HBS.out.below (H5a.out.mono hB))
  have s4 := H4.out.size
  have hgl4 := X4.out.lt
  clear hv hvb b5
  obtain ⟨i0, hi0, hz0, hz1, hz2⟩ := info_parts info_u8
  go_wp2_with (at_builtin; refine wpList_append_any _ rfl _ _ _ rfl 0 5 i0 (.int .u8 0) 1 1 Tryz.underlying28 hi0 hz0 hz1 hz2 rfl (by decide) _ _ _ rfl HV.out B Ab nb cb (bytesV bs) rfl (by exact HBS5.out) (bytesV_one bs) (by have := HLEN.out []; simp only [maxLen]; omega) (by have := HLEN.out []; omega) (Nat.zero_le _) ?_; intro v1 W1 ho hg hp; have HEND := Hd (more_end HNB.out HVB.out H5a.out X5a.out s4 hgl4 (wkbT_ne TT [] bs) ho hg); clear ho hg hp; obtain ⟨g5, c5, rfl, hy, h5, x5⟩ := HEND.out; have H5 := Hd h5; have X5 := Hd x5; have HRD := Hd (ReadWKB_any HR.out (by have := HNP.out; omega) hy); clear hy h5 x5)
  refine HRD.out.mono ?_
  rintro e w6 ⟨cs6, rfl, g6, b6⟩
  obtain ⟨k6, d6, A6, K6, n6, m6, c6, e6, rfl⟩ := g6.shape
  have H6 := Hd (H5.out.trans (b6.mono H5.out.size))
  have X6 := Hd (X5.out.below b6 X5.out.lt)
  have XG7 := Hd (Blk.drew (X6.out.alloc (.cells #[.int .i64 k6, .int .i64 d6, .slice A6 n6 c6, .slice K6 m6 e6] 25)))
  have XH7 := Hd (Blk.drew (Blk.new w6 25 #[.int .i64 k6, .int .i64 d6, .slice A6 n6 c6, .slice K6 m6 e6]))
  have B7 := Hd (Below.drew (H6.out.alloc H6.out.size (.cells #[.int .i64 k6, .int .i64 d6, .slice A6 n6 c6, .slice K6 m6 e6] 25)))
  have H7 : Hid (GmOn (World.drew (w6.alloc (.cells #[.int .i64 k6, .int .i64 d6, .slice A6 n6 c6, .slice K6 m6 e6] 25))) (fun b => b < w6.heap.size) [.int .i64 k6, .int .i64 d6, .slice A6 n6 c6, .slice K6 m6 e6] TT) := Hd (GmOn.keeps _ _ _ _ _ _ g6 (fun b hb hl => Below.heap_alloc w6 _ b hl) (fun b _ hl => hl))
  clear g6 b6 HRD
  go_upto_region 7 with fail
  refine start_ (n := 8) (S := fun w' => w'.cell? ⟨w6.heap.size, 0, none⟩ = some (.int .i64 k6) ∧ w'.cell? ⟨w6.heap.size, 1, none⟩ = some (.int .i64 d6) ∧ w'.cell? ⟨w6.heap.size, 2, none⟩ = some (.slice A6 n6 c6) ∧ w'.cell? ⟨w6.heap.size, 3, none⟩ = some (.slice K6 m6 e6) ∧ w'.cell? ⟨w.heap.size, 0, none⟩ = some (.int .i64 k) ∧ w'.cell? ⟨w.heap.size, 1, none⟩ = some (.int .i64 d) ∧ w'.cell? ⟨w.heap.size, 2, none⟩ = some (.slice A n c) ∧ w'.cell? ⟨w.heap.size, 3, none⟩ = some (.slice KA m c')) (ds := []) #[false, false, false, false, false, false, false, false] (by kernel_rfl) rfl rfl ⟨(XH7.out.cell 0).trans rfl, (XH7.out.cell 1).trans rfl, (XH7.out.cell 2).trans rfl, (XH7.out.cell 3).trans rfl, (XG7.out.cell 0).trans rfl, (XG7.out.cell 1).trans rfl, (XG7.out.cell 2).trans rfl, (XG7.out.cell 3).trans rfl⟩ (fun hHeld => ?_)
  refine pure_ (i := 0) (N := some 40) (v := ?_) (a' := ?_) #[true, false, false, false, false, false, false, false] rfl rfl (by kernel_rfl) (fun _ _ _ h => h) (Or.inl ⟨by rfl, ?_⟩) ?_ ?_
  rotate_left; (· intro w'; go_simp; with_reducible rfl); rotate_left; (· simp only [Act.put, sA, sB, sC]; rfl)
  refine pure_ (i := 1) (N := some 41) (v := ?_) (a' := ?_) #[true, true, false, false, false, false, false, false] rfl rfl (by kernel_rfl) (fun _ _ _ h => h) (Or.inl ⟨by rfl, ?_⟩) ?_ ?_
  rotate_left; (· intro w'; go_simp; with_reducible rfl); rotate_left; (· simp only [Act.put, sA, sB, sC]; rfl)
  refine take_ (i := 2) (N := some 42) (v := ?_) (a' := ?_) #[true, true, true, false, false, false, false, false] rfl rfl (by kernel_rfl) (fun _ _ _ h => h) (Or.inl ⟨by rfl, ?_⟩) hHeld ?_ ?_
  rotate_left; (· rintro w' ⟨s0, s1, s2, s3, s4, s5, s6, s7⟩; go_simp; with_reducible rfl); rotate_left; (· simp only [Act.put, sA, sB, sC]; rfl)
  refine take_ (i := 3) (N := some 43) (v := ?_) (a' := ?_) #[true, true, true, true, false, false, false, false] rfl rfl (by kernel_rfl) (fun _ _ _ h => h) (Or.inl ⟨by rfl, ?_⟩) hHeld ?_ ?_
  rotate_left; (· rintro w' ⟨s0, s1, s2, s3, s4, s5, s6, s7⟩; go_simp; with_reducible rfl); rotate_left; (· simp only [Act.put, sA, sB, sC]; rfl)
  refine one_ (i := 4) (N := some 44) #[true, true, true, true, true, false, false, false] rfl rfl (by kernel_rfl) (by decide) (fun K hK => ?_)
  refine goes_ Tryz.func12 (by kernel_rfl) rfl #[.agg #[.int .i64 k, .int .i64 d, .slice A n c, .slice KA m c']] (by rfl) rfl rfl (by simp only [List.map_toArray, List.map_cons, List.map_nil]; rfl) ?_
  with_reducible refine (HN.out _ B7.out).mono ?_
  rintro e w8 ⟨cs8, rfl, g8, b8⟩
  refine ⟨_, rfl, ?_⟩
  obtain ⟨k8, d8, A8, K8, n8, m8, c8, e8, rfl⟩ := g8.shape
  have G8 := Hd g8
  have XH8 := Hd (XH7.out.below b8 XH7.out.lt)
  have XG8 := Hd (XG7.out.below b8 XG7.out.lt)
  have B8 := Hd (B7.out.trans (b8.mono B7.out.size))
  have H8 := Hd (GmOn.keeps _ _ _ _ _ _ H7.out (fun b hb hl => b8.block b hl) (fun b hb _ => hb))
  clear g8 b8
  refine hK.out _ _ ⟨(XH8.out.cell 0).trans rfl, (XH8.out.cell 1).trans rfl, (XH8.out.cell 2).trans rfl, (XH8.out.cell 3).trans rfl, (XG8.out.cell 0).trans rfl, (XG8.out.cell 1).trans rfl, (XG8.out.cell 2).trans rfl, (XG8.out.cell 3).trans rfl⟩ (fun hHeld => ?_)
  clear hK K
  refine norm_ (a' := ?_) ?_ ?_
  rotate_left
  · show Act.put _ (some 44) _ = _
    simp only [Act.put, sA, sB, sC]
    rfl
  refine one_ (i := 5) (N := some 45) #[true, true, true, true, true, true, false, false] rfl rfl (by kernel_rfl) (by decide) (fun K hK => ?_)
  refine goes_ Tryz.func25 (by kernel_rfl) rfl #[.agg #[.int .i64 k6, .int .i64 d6, .slice A6 n6 c6, .slice K6 m6 e6], .agg #[.int .i64 k8, .int .i64 d8, .slice A8 n8 c8, .slice K8 m8 e8]] (by rfl) rfl rfl (by simp only [List.map_toArray, List.map_cons, List.map_nil]; rfl) ?_
  with_reducible refine (SameG.use HSG.out H8.out G8.out).mono ?_
  rintro e w9 ⟨rfl, b9⟩
  refine ⟨_, rfl, ?_⟩
  have XH9 := Hd (XH8.out.below b9 XH8.out.lt)
  have XG9 := Hd (XG8.out.below b9 XG8.out.lt)
  have B9 := Hd (B8.out.trans (b9.mono B8.out.size))
  clear b9
  refine hK.out _ _ ⟨(XH9.out.cell 0).trans rfl, (XH9.out.cell 1).trans rfl, (XH9.out.cell 2).trans rfl, (XH9.out.cell 3).trans rfl, (XG9.out.cell 0).trans rfl, (XG9.out.cell 1).trans rfl, (XG9.out.cell 2).trans rfl, (XG9.out.cell 3).trans rfl⟩ (fun hHeld => ?_)
  clear hK K
  refine norm_ (a' := ?_) ?_ ?_
  rotate_left
  · show Act.put _ (some 45) _ = _
    simp only [Act.put, sA, sB, sC]
    rfl
  refine pure_ (i := 6) (N := some 46) (v := ?_) (a' := ?_) #[true, true, true, true, true, true, true, false] rfl rfl (by kernel_rfl) (fun _ _ _ h => h) (Or.inl ⟨by rfl, ?_⟩) ?_ ?_
  rotate_left; (· intro w'; go_simp; with_reducible rfl); rotate_left; (· simp only [Act.put, sA, sB, sC]; rfl)
  refine pure_ (i := 7) (N := some 4) (v := ?_) (a' := ?_) #[true, true, true, true, true, true, true, true] rfl rfl (by kernel_rfl) (fun _ _ _ h => h) (Or.inl ⟨by rfl, ?_⟩) ?_ ?_
  rotate_left; (· intro w'; go_simp; with_reducible rfl); rotate_left; (· simp only [Act.put, sA, sB, sC]; rfl)
  refine done_ (by kernel_rfl) ?_
  go_wp2
  go_ret
  exact ⟨rfl, B9.out⟩

end Go.Proofs.YtofdccmmagcamaaGreatDoor
