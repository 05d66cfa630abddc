/- The law FnPointJSON: whatever the plain data, it returns true and turns nothing that was there. -/
import Derived.Test.YtpbcfgehmalppaaDoorJsK
namespace Go.Proofs.YtpbcfgehmalppaaDoor
open Go.RowKit

theorem below_bf3 {w w' : World} {v : Value} {bs : List Int} (h : Bf w w' none v bs) : Below w.heap.size w w' := ⟨h.grown.os, h.grown.tape, h.grown.output, h.grown.size, fun i hi => h.grown.block i hi (by simp)⟩
theorem own_of_bf {w w' : World} {v : Value} {bs : List Int} (h : Bf w w' none v bs) : Own w' v bs := Bf.own_ h
theorem own_kept' {w w' : World} {v : Value} {bs : List Int} (h : Own w v bs) (hb : Below w.heap.size w w') : Own w' v bs := by
  refine World.ownsRow.kept h (only_of_below hb none) ?_
  cases v.ownBlock <;> simp
theorem textJ_point (hi lo : Nat → Int) (d : Int) (ns : List Nat) (n : Nat) (hn : ns.length = n) : textJ hi lo (d % 4) (ns.take (cutN d n)) (cutN d n) = strOfNums (pointJ hi lo d ns) := by
  have q0 : 0 ≤ d % 4 := by omega
  have q1 : d % 4 ≤ 3 := by omega
  have hwp : 2 ≤ wd (d % 4) ∧ wd (d % 4) ≤ 4 := by rcases wd_cases (d % 4) q0 q1 with ⟨_, h⟩ | ⟨_, h⟩ | ⟨_, h⟩ | ⟨_, h⟩ <;> rw [h] <;> omega
  unfold textJ pointJ bodyJ cutN
  rw [hn]
  by_cases h : wd (d % 4) ≤ n
  · rw [if_pos h, if_neg (by omega), if_pos h, ptN_take _ _ _ (Nat.le_refl _) q0 q1]
  · rw [if_neg h, if_pos rfl, if_neg h]

set_option maxHeartbeats 4000000 in
set_option maxRecDepth 100000 in
theorem jlaw_any {B : Nat} {k d : Int} {A K : Option Addr} {n m c c' : Nat} {t : Gm} (hi lo : Nat → Int) (w : World) (ht : FtTabs w hi lo) (h : GmAt w B (.agg #[.int .i64 k, .int .i64 d, .slice A n c, .slice K m c']) t) (hB : B ≤ w.heap.size) (hc : n ≤ c) :
    Calls Tryd.prog 5 #[.agg #[.int .i64 k, .int .i64 d, .slice A n c, .slice K m c']] w fun e w' => e = .returned (.bool true) ∧ Below w.heap.size w w' := by
  have hg0 : Below w.heap.size w (w.alloc (.cells #[.int .i64 k, .int .i64 d, .slice A n c, .slice K m c'] 37)) := (Below.refl _ _).alloc (Nat.le_refl _) _
  have hbox := Blk.new w 37 #[.int .i64 k, .int .i64 d, .slice A n c, .slice K m c']
  have HX := Lib.hid hbox
  have HG := Lib.hid hg0
  have HT := Lib.hid ht
  have H := Lib.hid h
  clear hbox hg0 ht h
  go_enter Tryd.func5, Tryd.ntmps5
  go_wp2_with fail
  refine (zzFits2_any k d A K n m c c' _).mono ?_
  rintro e w1 ⟨b, rfl, h1⟩
  have H1 := Lib.hid (HG.out.trans (h1.mono (by simp)))
  have X1 := Lib.hid (HX.out.below h1 (by simp))
  clear h1
  cases b
  · go_wp2
    go_ret
    exact ⟨rfl, H1.out⟩
  have r0 := X1.out.cell 0
  have r1 := X1.out.cell 1
  have r2 := X1.out.cell 2
  have r3 := X1.out.cell 3
  simp at r0 r1 r2 r3
  go_wp2_with fail
  refine (kIs_any 1 _ (H.out.keepB (H1.out.mono hB)) (Nat.le_trans hB H1.out.size)).mono ?_
  rintro e w2 ⟨b, rfl, hk, h2⟩
  have H2 := Lib.hid (H1.out.trans (h2.mono H1.out.size))
  have X2 := Lib.hid (X1.out.below h2 X1.out.lt)
  clear h2 r0 r1 r2 r3
  cases b
  · go_wp2
    go_ret
    exact ⟨rfl, H2.out⟩
  obtain ⟨rfl, hsz⟩ := hk rfl
  obtain ⟨ns, hR, hbs, hnl, hn⟩ : ∃ ns, Reads w B 1 A n (flV ns) ∧ (∀ b ∈ ns, b < 18446744073709551616) ∧ ns.length = n ∧ n ≤ 2000 := by
    have h := H.out
    cases h with
    | mk en em hn hb hk hs =>
      refine ⟨_, hn, hb, en, ?_⟩
      unfold Gm.sz at hsz
      omega
  have r0 := X2.out.cell 0
  have r1 := X2.out.cell 1
  have r2 := X2.out.cell 2
  have r3 := X2.out.cell 3
  simp at r0 r1 r2 r3
  have htx := textJ_point hi lo d ns n hnl
  have HTX := Lib.hid htx
  have HR := Lib.hid hR
  have HBS := Lib.hid hbs
  have HNL := Lib.hid hnl
  clear hk hsz hR hbs hnl htx
  go_wp2_with fail
  refine (PointJSON_any (K := K) (m := m) (c := c) (c' := c') d hi lo _ (HR.out.below (H2.out.mono hB)) HBS.out (Nat.le_trans hB H2.out.size) (by omega) (HT.out.below H2.out)).mono ?_
  rintro e w3 ⟨v3, rfl, h3⟩
  have H3 := Lib.hid (H2.out.trans ((below_bf3 h3).mono H2.out.size))
  have X3 := Lib.hid (X2.out.below (below_bf3 h3) X2.out.lt)
  have V3 := Lib.hid (own_of_bf h3)
  clear h3 r0 r1 r2 r3
  have r0 := X3.out.cell 0
  have r1 := X3.out.cell 1
  have r2 := X3.out.cell 2
  have r3 := X3.out.cell 3
  simp at r0 r1 r2 r3
  go_wp2_with fail
  refine (New_point (K := K) (m := m) (c' := c') d _ (HR.out.below (H3.out.mono hB)) hc (Nat.le_trans hB H3.out.size) (by omega)).mono ?_
  rintro e w4 ⟨v4, rfl, h4⟩
  obtain ⟨A4, g4, c4, hv4, hA4⟩ := h4.first
  have hb4 : Below w3.heap.size w3 w4 := h4.below0
  have H4 := Lib.hid (H3.out.trans (hb4.mono H3.out.size))
  have V4 := Lib.hid (own_kept' V3.out hb4)
  have hcl : (ns.take (cutN d n)).length = cutN d n := by
    rw [List.length_take, HNL.out]
    unfold cutN
    split <;> omega
  rw [hcl] at hv4 hA4
  subst hv4
  have hcut : cutN d n = 0 ∨ cutN d n = wd (d % 4) := by unfold cutN; split <;> simp
  have hbt : ∀ b ∈ ns.take (cutN d n), b < 18446744073709551616 := fun b hb => HBS.out b (List.mem_of_mem_take hb)
  have hW := WriteJSON_point (d % 4) (by omega) (by omega) g4 (cutN d n) c4 A4 (ns.take (cutN d n)) hi lo w4 (HT.out.below H4.out) hA4 hcut hbt
  rw [HTX.out] at hW
  have HW := Lib.hid hW
  clear hW hA4 h4 hb4 hcl hcut hbt r0 r1 r2 r3
  generalize cutN d n = kk at *
  go_wp2_with fail
  refine HW.out.mono ?_
  rintro e w5 ⟨g5, cap, rfl, hc5, hb5⟩
  have H5 := Lib.hid (H4.out.trans (hb5.mono H4.out.size))
  have cv1 := own_string (P := Tryd.prog) (src := 32) (dst := 9) Tryd.underlying32 Tryd.underlying5 Tryd.underlying9 (own_kept' V4.out hb5)
  have cv2 := run_convert_bytes_arg (P := Tryd.prog) w5 32 5 Tryd.underlying32 Tryd.underlying5 g5 0 _ cap (strB (strOfNums (pointJ hi lo d ns))) (strB_length _) (fun i hi => by rw [Nat.zero_add]; exact hc5 i hi) 9 Tryd.underlying9
  rw [strOfNums_strB] at cv2
  generalize strOfNums (pointJ hi lo d ns) = T at *
  clear hc5 hb5
  go_wp2
  go_ret
  have hq : (T.toList == T.toList) = true := by simp
  exact ⟨by first | rfl | exact congrArg (fun b => Ending.returned (Value.bool b)) hq, H5.out⟩

end Go.Proofs.YtpbcfgehmalppaaDoor
