/- Texts of geometries of parts. -/
import Derived.Test.YtpbcfgehmalppaaGreatDoorPgU
namespace Go.Proofs.YtpbcfgehmalppaaGreatDoor
open Go.RowKit Go.Proofs.YtpbcfgehmalppaaGreatDoorW.PrintLast

attribute [local go_sem] run_store_float

set_option maxHeartbeats 8000000 in
set_option maxRecDepth 100000 in
theorem MlWkt_G {ok : Nat → Prop} {A : Option Addr} {n c : Nat} {q : Int} {t : Gm} (hi lo : Nat → Int) (w : World) (h : MlG w ok [.slice A n c, .int .u8 q] t) (ho : OkT t) (v : Value) (bs : List Int) (hv : Own w v bs) (ht : FtTabs w hi lo)
    (hrow : ∀ k, k < 7 → v.ownBlock ≠ some k) (hokv : ∀ b, ok b → b < w.heap.size → v.ownBlock ≠ some b) (hl : bs.length + 10000 * t.np ≤ 60000000000000) :
    Calls Tryz.prog 70 #[.agg #[.slice A n c, .int .u8 q], v] w fun e w' => ∃ v', e = .returned v' ∧ Bf w w' v.ownBlock v' (bs ++ wktT hi lo t) := by
  obtain ⟨i0, hi0, hz0, hz1, hz2⟩ := info_parts info_u8
  have hN := RowG.nums (fun _ _ _ _ h => h.nums) h
  obtain ⟨A', n', c', q', ks, rfl, e, q0, q1, hl1, hn, hr⟩ := h
  simp only [List.cons.injEq, Value.slice.injEq, Value.int.injEq, and_true, true_and] at e
  obtain ⟨⟨rfl, rfl, rfl⟩, rfl⟩ := e
  have hNk : ∀ t ∈ ks, NumT t := by cases hN with | mk _ hk => exact hk
  have hOk : ∀ t ∈ ks, OkT t := by cases ho with | mk _ _ _ _ hk => exact hk
  rw [np_mk, show ([] : List Nat).length / wd q = 0 from Nat.zero_div _] at hl
  have hbody := bodyT_row hi lo 5 q ks
  have href := head_ref hi lo (t := .mk 5 q [] ks) q0 q1 bs
  have htl := tagB_len q
  have hnm : strB { data := #[77, 85, 76, 84, 73, 76, 73, 78, 69, 83, 84, 82, 73, 78, 71] } = nameB 5 := rfl
  have hnl := nameB_len 5
  change bs ++ nameB 5 ++ tagB q ++ (sepO (bs ++ nameB 5 ++ tagB q) _ ++ _) = _ at href
  have hjr := fun (k : Nat) (s : Gm) (hk : ks[k]? = some s) => join_room hi lo 5 hNk hk
  have hja := fun (k : Nat) hk => join_all hi lo 5 hNk k hk
  have hgd := fun (k : Nat) (s : Gm) (hk : ks[k]? = some s) => kidsT_getD hi lo 5 hk
  rw [hl1] at hbody
  generalize (ks.map Gm.np).sum = SP at *
  have hb1 : Below w.heap.size w (w.alloc (.cells #[.slice A n c, .int .u8 q] 67)) := (Below.refl _ _).alloc (Nat.le_refl _) _
  have hbox := Blk.new w 67 #[.slice A n c, .int .u8 q]
  have hne : v.ownBlock ≠ some w.heap.size := fun e => by have := (hv.lt _ e).2; omega
  have ho1 : Own (w.alloc (.cells #[.slice A n c, .int .u8 q] 67)) v bs := hv.alloc _
  have ht1 := ht.below hb1
  have hg0 : w.grownBy (w.alloc (.cells #[.slice A n c, .int .u8 q] 67)) none := World.grownBy_alloc w _ none
  have hsz1 : w.heap.size ≤ (w.alloc (.cells #[.slice A n c, .int .u8 q] 67)).heap.size := by simp
  have HD := Lib.hid (header_any { data := #[77, 85, 76, 84, 73, 76, 73, 78, 69, 83, 84, 82, 73, 78, 71] } q q0 q1 (w.alloc (.cells #[.slice A n c, .int .u8 q] 67)) v bs ho1 (by rw [← strB_length, hnm]; omega))
  rw [hnm] at HD
  have r0 := hbox.cell 0
  have r1 := hbox.cell 1
  simp at r0 r1
  have HBX := Lib.hid hbox
  have HB1 := Lib.hid hb1
  have HT := Lib.hid ht1
  have HG0 := Lib.hid hg0
  have HR := Lib.hid hr
  have HL1 := Lib.hid hl1
  have HOK := Lib.hid hOk
  have HBD := Lib.hid hbody
  have HRF := Lib.hid href
  have HJR := Lib.hid hjr
  have HJA := Lib.hid hja
  have HGD := Lib.hid hgd
  have HKV := Lib.hid hokv
  have HOV := Lib.hid ho1
  have HNM := Lib.hid hnm
  clear hbox hb1 ht1 ht hg0 hr hl1 hOk hbody href hjr hja hgd hokv hN hNk ho ho1 hnm hv
  go_enter Tryz.func70, Tryz.ntmps70
  go_wp2_with fail
  refine HD.out.mono ?_
  rintro e w2 ⟨v2, rfl, h2⟩
  have x2 := HBX.out.bf h2 hne
  clear r0 r1
  have r0 := x2.cell 0
  have r1 := x2.cell 1
  simp at r0 r1
  generalize hBS : bs ++ nameB 5 ++ tagB q = BS at *
  have hBSl : BS.length ≤ bs.length + 22 := by rw [← hBS]; simp only [len_app]; omega
  have hBSn : ∃ m, BS.length = m + 1 := by
    refine ⟨BS.length - 1, ?_⟩
    have : 0 < BS.length := by rw [← hBS, len_app, len_app]; have : 0 < (nameB 5).length := by decide
                               omega
    omega
  obtain ⟨nb, hnb⟩ := hBSn
  have HNB := Lib.hid hnb
  have H2 := Lib.hid h2
  clear hBS h2 x2 hnb
  by_cases hn0 : n = 0
  · subst hn0
    rw [if_pos rfl] at HBD
    go_wp2_with fail
    refine (empty_any _ _ BS nb HNB.out (Bf.own_ H2.out) (by omega)).mono ?_
    rintro e w3 ⟨v3, rfl, h3⟩
    have H3 := Lib.hid (H2.out.trans h3)
    clear h3
    go_wp2
    go_ret
    refine ⟨_, rfl, ?_⟩
    have h3 := H3.out.pre_none HG0.out
    rw [sepO_empty, ← HBD.out, HRF.out] at h3
    exact h3
  · have hne0 : ((n : Int) == 0) = false := by rw [beq_eq_false_iff_ne]; omega
    rw [if_neg hn0] at HBD
    have h2 := H2.out
    go_wp2_with ((at_builtin; refine wpList_bf_append1g rfl _ _ _ rfl Tryz.underlying30 hi0 hz0 hz1 hz2 rfl rfl (by assumption) (by first | rfl | simp) (by first | omega | (simp only [len_app, List.length_cons, List.length_nil]; omega)) ?_; intro v1 W1 h1); have x3 := HBX.out.bf h1 hne; have r0 := x3.cell 0; have r1 := x3.cell 1; simp at r0 r1; clear x3)
    have H3 := Lib.hid h1
    clear h1 h2
    go_loopw [1, 23] (fun u i wr => ∃ k : Nat, k ≤ n ∧ i = .int .i64 k ∧ Bf (w.alloc (.cells #[.slice A n c, .int .u8 q] 67)) wr v.ownBlock u (BS ++ [40] ++ joinS 44 (kidsT hi lo 5 ks) k)) (fun _ i _ => n - (intOf i).toNat)
    case atStart => exact ⟨0, Nat.zero_le _, rfl, by simpa [joinS] using H3.out⟩
    case round =>
      obtain ⟨k, hk, rfl, h1⟩ := hrel
      have hjk := HJA.out k (by rw [HL1.out]; exact hk)
      have hwz : w.heap.size + 1 ≤ wr.heap.size := by have := h1.grown.size; simpa using this
      by_cases hlt : k < n
      · obtain ⟨g, x, s, rfl, hgok, hr, hxl, hcl, hrs, hgl⟩ := row_at HL1.out HR.out hlt
        replace hgl := hgl (by decide)
        have hsm : OkT s := HOK.out s (List.mem_of_getElem? hr)
        obtain ⟨rq, rA, rn, rc, rfl, -⟩ := hrs.shape
        have hgv := HKV.out g hgok hgl
        have j0 := cell_at HB1.out h1 hgl hgv (hcl 0 _ rfl)
        have j1 := cell_at HB1.out h1 hgl hgv (hcl 1 _ rfl)
        rw [Nat.add_zero] at j0
        have hstep : joinS 44 (kidsT hi lo 5 ks) (k + 1) = (if 0 < k then joinS 44 (kidsT hi lo 5 ks) k ++ [44] else joinS 44 (kidsT hi lo 5 ks) k) ++ (kidsT hi lo 5 ks).getD k [] := rfl
        rw [HGD.out k s hr] at hstep
        have hroom := HJR.out k s hr
        have hT0 : k = 0 → joinS 44 (kidsT hi lo 5 ks) k = [] := fun h => by rw [h]; rfl
        generalize joinS 44 (kidsT hi lo 5 ks) k = T at *
        have hlk : (BS ++ [40] ++ T).length + 10000 * s.np + 1 ≤ 60000000000000 := by simp only [len_app, List.length_cons, List.length_nil]; omega
        have HST := Lib.hid hstep
        have HRS := Lib.hid hrs
        have HSM := Lib.hid hsm
        generalize hBT : BS ++ [40] ++ T = BT at *
        have HBT := Lib.hid hBT
        have hA : Below wr.heap.size wr (wr.alloc (.cells #[.int .u8 rq, .slice rA rn rc] 93)) := (Below.refl _ _).alloc (Nat.le_refl _) _
        have hu : u1.ownBlock ≠ some wr.heap.size := fun e => by have := (h1.own.lt _ e).2; omega
        have hlb := Blk.new wr 93 #[.int .u8 rq, .slice rA rn rc]
        have H1 := Lib.hid (h1.below hA)
        have HLB := Lib.hid hlb
        clear hstep hrs hcl hr hBT hsm h1 hA
        by_cases hk0 : 0 < k
        · have hd : decide (0 < (k : Int)) = true := decide_eq_true (by omega)
          rw [if_pos hk0] at HST
          have h1 := Bf.start H1.out.own
          go_wp2_with ((at_builtin; refine wpList_bf_append1g rfl _ _ _ rfl Tryz.underlying30 hi0 hz0 hz1 hz2 rfl rfl (by assumption) (by first | rfl | simp) (by first | omega | (simp only [len_app, List.length_cons, List.length_nil]; omega)) ?_; intro v1 W1 h1); have hlb1 := HLB.out.bf h1 hu; have l0 := hlb1.cell 0; have l1 := hlb1.cell 1; simp at l0 l1; clear hlb1)
          have HC := Lib.hid (H1.out.trans h1)
          clear h1
          with_reducible refine (LsIn_G 5 (by decide) hi lo _ (rel_at LsG.keeps HB1.out HC.out HKV.out (fun b h => h.1) HRS.out) HSM.out _ (BT ++ [44]) (opensB_44 BT) (Bf.own_ HC.out) (HT.out.of_bf HC.out hrow) (place_row HC.out hrow HT.out.siz) (place_ok HC.out HKV.out hsz1) (by first | omega | (simp only [len_app, List.length_cons, List.length_nil]; omega))).mono ?_
          rintro e w5 ⟨v5, rfl, h5⟩
          have H5 := Lib.hid (HC.out.trans h5)
          clear h5
          go_wp2
          go_roundw
          case rel =>
            refine ⟨k + 1, by omega, by go_num, ?_⟩
            rw [HST.out]
            have h5 := H5.out
            rw [← HBT.out] at h5
            simpa [List.append_assoc] using h5
          case measure => simp [intOf]; omega
        · obtain rfl : k = 0 := by omega
          have hd : decide (0 < ((0 : Nat) : Int)) = false := rfl
          rw [if_neg hk0] at HST
          have hop : opensB BT := by rw [← HBT.out, hT0 rfl, List.append_nil]; exact opensB_40 BS
          have HC := H1
          go_wp2_with fail
          with_reducible refine (LsIn_G 5 (by decide) hi lo _ (rel_at LsG.keeps HB1.out HC.out HKV.out (fun b h => h.1) HRS.out) HSM.out _ BT (hop) (Bf.own_ HC.out) (HT.out.of_bf HC.out hrow) (place_row HC.out hrow HT.out.siz) (place_ok HC.out HKV.out hsz1) (by first | omega | (simp only [len_app, List.length_cons, List.length_nil]; omega))).mono ?_
          rintro e w5 ⟨v5, rfl, h5⟩
          have H5 := Lib.hid (HC.out.trans h5)
          clear h5
          go_wp2
          go_roundw
          case rel =>
            refine ⟨1, by omega, by go_num, ?_⟩
            rw [HST.out]
            have h5 := H5.out
            rw [← HBT.out] at h5
            simpa [List.append_assoc] using h5
          case measure => simp [intOf]; omega
      · obtain rfl : n = k := by omega
        have hlk : (BS ++ [40] ++ joinS 44 (kidsT hi lo 5 ks) n).length ≤ 60000000000000 := by simp only [len_app, List.length_cons, List.length_nil]; omega
        generalize hBT : BS ++ [40] ++ joinS 44 (kidsT hi lo 5 ks) n = BT at *
        have HBT := Lib.hid hBT
        clear hBT
        go_wp2_with (at_builtin; refine wpList_bf_append1g rfl _ _ _ rfl Tryz.underlying30 hi0 hz0 hz1 hz2 rfl rfl (by assumption) (by first | rfl | simp) (by first | omega | (simp only [len_app, List.length_cons, List.length_nil]; omega)) ?_; intro v1 W1 h1)
        go_ret
        refine ⟨_, rfl, ?_⟩
        have h3 := h1.pre_none HG0.out
        have e : BT ++ [41] = bs ++ wktT hi lo (.mk 5 q [] ks) := by
          rw [← HRF.out, HBD.out, List.append_assoc [40], sepO_list, ← HBT.out]
          simp [List.append_assoc]
        rw [e] at h3
        exact h3

end Go.Proofs.YtpbcfgehmalppaaGreatDoor
