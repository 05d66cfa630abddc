/- The law FnPolygonJSON: whatever the plain data, it returns true and turns nothing that was there. -/
import Derived.Test.YtpbcfgehmalppaaGreatDoorPgJc
namespace Go.Proofs.YtpbcfgehmalppaaGreatDoor
open Go.RowKit

attribute [local go_sem] run_store_float

set_option maxRecDepth 100000 in
theorem jsonName3 (w : World) : Calls Tryz.prog 39 #[.int .i64 3] w fun e w' => e = .returned (.string { data := #[80, 111, 108, 121, 103, 111, 110] }) ∧ w' = w := by
  go_enter Tryz.func39, Tryz.ntmps39
  go_wp2
  go_ret
  exact ⟨rfl, rfl⟩

theorem polyJ_is (hi lo : Nat → Int) (t : Gm) :
    ({ data := #[123, 34, 116, 121, 112, 101, 34, 58, 34] } : ByteArray) ++ { data := #[80, 111, 108, 121, 103, 111, 110] } ++ { data := #[34, 44, 34, 99, 111, 111, 114, 100, 105, 110, 97, 116, 101, 115, 34, 58] } ++ strOfNums (jbodyT hi lo t) ++ { data := #[125] } = strOfNums (polyJ hi lo t) := by
  unfold polyJ
  rw [← strOfNums_app, ← strOfNums_app, hdrP, strOfNums_strB]
  rfl

set_option maxHeartbeats 4000000 in
set_option maxRecDepth 100000 in
theorem WriteJSON_poly {hi lo : Nat → Int} {w : World} {ok : Nat → Prop} {d : Int} {A K : Option Addr} {n m c c' : Nat} {t : Gm} (h : GmOn w ok [.int .i64 3, .int .i64 d, .slice A n c, .slice K m c'] t) (hlt : LineT t) (ho : OkT t) (hnp : t.np ≤ 1000000) (ht : FtTabs w hi lo) :
    Calls Tryz.prog 15 #[.agg #[.int .i64 3, .int .i64 d, .slice A n c, .slice K m c']] w fun e w' => ∃ g cap, e = .returned (.tuple #[.slice (some ⟨g, 0, none⟩) (strOfNums (polyJ hi lo t)).size cap, .bool true]) ∧ (∀ i, i < (strOfNums (polyJ hi lo t)).size → w'.cell? ⟨g, i, none⟩ = some (.int .u8 ((strB (strOfNums (polyJ hi lo t))).getD i 0))) ∧ Below w.heap.size w w' := by
  have hbl := jbodyT_len hi lo h.nums
  have hbody := jsonBody_any (hi := hi) (lo := lo) h hlt ho hnp
  unfold JBodyAt at hbody
  have hg0 : Below w.heap.size w (w.alloc (.cells #[.int .i64 3, .int .i64 d, .slice A n c, .slice K m c'] 25)) := (Below.refl _ _).alloc (Nat.le_refl _) _
  have hB := fun nq => hbody ((w.alloc (.cells #[.int .i64 3, .int .i64 d, .slice A n c, .slice K m c'] 25)).drewN nq) (fun b _ hl => hg0.block b hl) (ht.below (below_drewN hg0 nq))
  have hti := polyJ_is hi lo t
  have hbl2 : (strOfNums (jbodyT hi lo t)).size ≤ 9000000000 := by rw [strOfNums_size]; omega
  generalize hS : strOfNums (jbodyT hi lo t) = S at *
  have hcv := fun (s : ByteArray) (w : World) => run_bytes_of_string (P := Tryz.prog) w 9 30 5 s Tryz.underlying9 Tryz.underlying30 Tryz.underlying5
  have hlen : (strOfNums (polyJ hi lo t)).size = 32 + S.size + 1 := by
    rw [← hti]
    simp [ByteArray.size_append]
    rfl
  generalize strOfNums (polyJ hi lo t) = PT at *
  have HLEN := Lib.hid hlen
  clear hlen
  have HTI := Lib.hid hti
  have HB := Lib.hid hB
  have HG := Lib.hid hg0
  clear hS hB hg0 ht hti hbody h hlt ho hnp hbl
  go_enter Tryz.func15, Tryz.ntmps15
  go_wp2
  go_region_with (first
    | (go_at_call 39; refine (jsonName3 _).mono ?_; rintro e w' ⟨rfl, rfl⟩)
    | (go_at_call 40; refine (HB.out _).mono ?_; rintro e w2 ⟨rfl, h2⟩))
  all_goals
    have hbel := Below.drew ((below_drewN HG.out _).trans (h2.mono (by simp)))
    have HBEL := Lib.hid hbel
    clear hbel h2
    go_wp2
    go_ret2
    refine ⟨w2.heap.size, grownCap w2 (32 + S.size + 1) 0 5, ?_, ?_, ?_⟩
    · rw [HLEN.out]; rfl
    · rw [← HTI.out]; exact fun i hi => cells_of_string w2.drew _ _ _ _ i hi
    · exact HBEL.out.alloc HBEL.out.size _

theorem line_newT {t : Gm} (h : t.k = 3) : LineT (newT t) := by
  obtain ⟨k, d, ns, ks⟩ := t
  unfold Gm.k at h
  simp only at h
  subst h
  rw [newT_mk, if_neg (by decide)]
  have hm : ∀ m ∈ (ks.map newT).filter (keepT (kindN 3)), m.k = 2 ∧ ∃ (q : Int) (ns : List Nat), m = .mk 2 q ns [] := fun m hm => by
    obtain ⟨h1, h2⟩ := List.mem_filter.1 hm
    obtain ⟨u, hu, rfl⟩ := List.mem_map.1 h1
    obtain ⟨uk, ud, uns, uks⟩ := u
    have hk2 : kindN uk = 2 := by
      unfold keepT at h2
      rw [newT_k] at h2
      have e1 : kidOf (kindN 3) = 2 := rfl
      rw [e1] at h2
      have h3 : (2 : Int) = kindN uk := by
        simp [Gm.k] at h2
        exact of_decide_eq_true h2
      exact h3.symm
    rw [newT_mk, if_pos (.inr hk2), hk2]
    exact ⟨rfl, _, _, rfl⟩
  unfold partsT
  split
  · exact .mk (by decide) (by simp)
  · rw [forceT_mk]
    refine .mk (by decide) (fun u hu => ?_)
    obtain ⟨s, hs, rfl⟩ := List.mem_map.1 hu
    obtain ⟨-, q, ns', rfl⟩ := hm s hs
    rw [forceT_mk]
    exact .mk (by decide) (by simp)

set_option maxHeartbeats 4000000 in
set_option maxRecDepth 100000 in
theorem FnPolygonJSON_law {B : Nat} {k d : Int} {A K : Option Addr} {n m c c' : Nat} {t : Gm} (hi lo : Nat → Int) (w : World) (ht : FtTabs w hi lo) (h : GmAt w B (.agg #[.int .i64 k, .int .i64 d, .slice A n c, .slice K m c']) t) (hB : B ≤ w.heap.size) :
    Calls Tryz.prog 4 #[.agg #[.int .i64 k, .int .i64 d, .slice A n c, .slice K m c']] w fun e w' => e = .returned (.bool true) ∧ Below w.heap.size w w' := by
  have hg0 : Below w.heap.size w (w.alloc (.cells #[.int .i64 k, .int .i64 d, .slice A n c, .slice K m c'] 25)) := (Below.refl _ _).alloc (Nat.le_refl _) _
  have hbox := Blk.new w 25 #[.int .i64 k, .int .i64 d, .slice A n c, .slice K m c']
  have HX := Lib.hid hbox
  have HG := Lib.hid hg0
  have HT := Lib.hid ht
  have H := Lib.hid h
  clear hbox hg0 ht h
  go_enter Tryz.func4, Tryz.ntmps4
  go_wp2_with fail
  refine (zzFits2_any k d A K n m c c' _).mono ?_
  rintro e w1 ⟨b, rfl, h1⟩
  have H1 := Lib.hid (HG.out.trans (h1.mono (by simp)))
  have X1 := Lib.hid (HX.out.below h1 (by simp))
  clear h1
  cases b
  · go_wp2
    go_ret
    exact ⟨rfl, H1.out⟩
  have r0 := X1.out.cell 0
  have r1 := X1.out.cell 1
  have r2 := X1.out.cell 2
  have r3 := X1.out.cell 3
  simp at r0 r1 r2 r3
  go_wp2_with fail
  refine (kIs_any 3 _ (H.out.keepB (H1.out.mono hB)) (Nat.le_trans hB H1.out.size)).mono ?_
  rintro e w2 ⟨b, rfl, hk, h2⟩
  have H2 := Lib.hid (H1.out.trans (h2.mono H1.out.size))
  have X2 := Lib.hid (X1.out.below h2 X1.out.lt)
  clear h2 r0 r1 r2 r3
  cases b
  · go_wp2
    go_ret
    exact ⟨rfl, H2.out⟩
  obtain ⟨rfl, hsz⟩ := hk rfl
  have hkk : t.k = 3 := gmAt_k H.out
  have r0 := X2.out.cell 0
  have r1 := X2.out.cell 1
  have r2 := X2.out.cell 2
  have r3 := X2.out.cell 3
  simp at r0 r1 r2 r3
  have HP := Lib.hid (PolygonJSON_G hi lo H.out hkk (by omega) w2 (H2.out.mono hB) (Nat.le_trans hB H2.out.size) (HT.out.below H2.out))
  have HOK := Lib.hid (ok_newT t (by omega)).2.2
  have hnp := np_newT t (by omega)
  have HLT := Lib.hid (line_newT hkk)
  have HKK := Lib.hid hkk
  clear hk hkk
  go_wp2_with fail
  refine HP.out.mono ?_
  rintro e w3 ⟨v3, rfl, h3⟩
  have H3 := Lib.hid (H2.out.trans ((below_bf0 h3).mono H2.out.size))
  have X3 := Lib.hid (X2.out.below (below_bf0 h3) X2.out.lt)
  have V3 := Lib.hid (Bf.own_ h3)
  clear h3 r0 r1 r2 r3
  have r0 := X3.out.cell 0
  have r1 := X3.out.cell 1
  have r2 := X3.out.cell 2
  have r3 := X3.out.cell 3
  simp at r0 r1 r2 r3
  have HN := Lib.hid (New_any H.out (by omega) w3 (H3.out.mono hB) (Nat.le_trans hB H3.out.size))
  go_wp2_with fail
  refine HN.out.mono ?_
  rintro e w4 ⟨cs4, rfl, h4, hb4⟩
  have H4 := Lib.hid (H3.out.trans (hb4.mono H3.out.size))
  have V4 := Lib.hid (own_kept0 V3.out hb4)
  obtain ⟨yk, yd, yA, yK, yn, ym, yc, yc', rfl⟩ := h4.shape
  obtain rfl : yk = 3 := by rw [← h4.kd.1, newT_k, HKK.out]; rfl
  have HW := Lib.hid (WriteJSON_poly (hi := hi) (lo := lo) h4 HLT.out HOK.out (by omega) (HT.out.below H4.out))
  clear h4 hb4 r0 r1 r2 r3
  go_wp2_with fail
  refine HW.out.mono ?_
  rintro e w5 ⟨g5, cap, rfl, hc5, hb5⟩
  have H5 := Lib.hid (H4.out.trans (hb5.mono H4.out.size))
  have cv1 := own_string (P := Tryz.prog) (src := 30) (dst := 9) Tryz.underlying30 Tryz.underlying5 Tryz.underlying9 (own_kept0 V4.out hb5)
  have cv2 := run_convert_bytes_arg (P := Tryz.prog) w5 30 5 Tryz.underlying30 Tryz.underlying5 g5 0 _ cap (strB (strOfNums (polyJ hi lo (newT t)))) (strB_length _) (fun i hi => by rw [Nat.zero_add]; exact hc5 i hi) 9 Tryz.underlying9
  rw [strOfNums_strB] at cv2
  generalize strOfNums (polyJ hi lo (newT t)) = T at *
  clear hc5 hb5
  go_wp2
  go_ret
  have hq : (T.toList == T.toList) = true := by simp
  exact ⟨by first | rfl | exact congrArg (fun b => Ending.returned (Value.bool b)) hq, H5.out⟩
where
  own_kept0 {w w' : World} {v : Value} {bs : List Int} (h : Own w v bs) (hb : Below w.heap.size w w') : Own w' v bs := by
    refine World.ownsRow.kept h (only_of_below hb none) ?_
    cases v.ownBlock <;> simp

end Go.Proofs.YtpbcfgehmalppaaGreatDoor
