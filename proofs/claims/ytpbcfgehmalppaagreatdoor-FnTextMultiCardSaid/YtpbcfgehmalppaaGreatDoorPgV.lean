/- Texts of polygons. -/
import Derived.Test.YtpbcfgehmalppaaGreatDoorPgU
namespace Go.Proofs.YtpbcfgehmalppaaGreatDoor
open Go.RowKit Go.Proofs.YtpbcfgehmalppaaGreatDoorW.PrintLast

attribute [local go_sem] run_store_float

set_option maxRecDepth 100000 in
theorem PgEmpty_any (b : Bool) (A : Option Addr) (n c : Nat) (q : Int) (hb : decide (n = 0) = b) (w : World) :
    Calls Tryz.prog 135 #[.agg #[.slice A n c, .int .u8 q]] w fun e w' => e = .returned (.bool b) ∧ Below w.heap.size w w' := by
  have he : ((n : Int) == 0) = b := by
    rw [← hb]
    by_cases h : n = 0
    · rw [h]; rfl
    · rw [decide_eq_false h, beq_eq_false_iff_ne]; omega
  clear hb
  go_enter Tryz.func135, Tryz.ntmps135
  go_wp2
  go_ret
  exact ⟨by first | rfl | rw [he], (Below.refl _ _).alloc (Nat.le_refl _) _⟩

set_option maxHeartbeats 8000000 in
set_option maxRecDepth 100000 in
theorem PgBody_G {ok : Nat → Prop} {A : Option Addr} {n c : Nat} {q : Int} {t : Gm} (hi lo : Nat → Int) (w : World) (h : PgG w ok [.slice A n c, .int .u8 q] t) (ho : OkT t) (v : Value) (bs : List Int) (hbn : bs ≠ []) (hv : Own w v bs) (ht : FtTabs w hi lo)
    (hrow : ∀ k, k < 7 → v.ownBlock ≠ some k) (hokv : ∀ b, ok b → b < w.heap.size → v.ownBlock ≠ some b) (hl : bs.length + 10000 * t.np ≤ 60000000000000) :
    Calls Tryz.prog 117 #[.agg #[.slice A n c, .int .u8 q], v] w fun e w' => ∃ v', e = .returned v' ∧ Bf w w' v.ownBlock v' (bs ++ (sepO bs (bodyT hi lo t) ++ bodyT hi lo t)) := by
  obtain ⟨i0, hi0, hz0, hz1, hz2⟩ := info_parts info_u8
  have hN := RowG.nums (fun _ _ _ _ h => h.nums) h
  obtain ⟨A', n', c', q', ks, rfl, e, q0, q1, hl1, hn, hr⟩ := h
  simp only [List.cons.injEq, Value.slice.injEq, Value.int.injEq, and_true, true_and] at e
  obtain ⟨⟨rfl, rfl, rfl⟩, rfl⟩ := e
  have hNk : ∀ t ∈ ks, NumT t := by cases hN with | mk _ hk => exact hk
  have hOk : ∀ t ∈ ks, OkT t := by cases ho with | mk _ _ _ _ hk => exact hk
  rw [np_mk, show ([] : List Nat).length / wd q = 0 from Nat.zero_div _] at hl
  have hbody := bodyT_row hi lo 3 q ks
  have hjr := fun (k : Nat) (s : Gm) (hk : ks[k]? = some s) => join_room hi lo 3 hNk hk
  have hja := fun (k : Nat) hk => join_all hi lo 3 hNk k hk
  have hgd := fun (k : Nat) (s : Gm) (hk : ks[k]? = some s) => kidsT_getD hi lo 3 hk
  rw [hl1] at hbody
  generalize (ks.map Gm.np).sum = SP at *
  obtain ⟨nb, hnb⟩ : ∃ m, bs.length = m + 1 := ⟨bs.length - 1, by have := List.length_pos_iff.2 hbn; omega⟩
  have hb1 : Below w.heap.size w (w.alloc (.cells #[.slice A n c, .int .u8 q] 63)) := (Below.refl _ _).alloc (Nat.le_refl _) _
  have hbox := Blk.new w 63 #[.slice A n c, .int .u8 q]
  have hne : v.ownBlock ≠ some w.heap.size := fun e => by have := (hv.lt _ e).2; omega
  have ho1 : Bf (w.alloc (.cells #[.slice A n c, .int .u8 q] 63)) (w.alloc (.cells #[.slice A n c, .int .u8 q] 63)) v.ownBlock v bs := Bf.start (hv.alloc _)
  have ht1 := ht.below hb1
  have hg0 : w.grownBy (w.alloc (.cells #[.slice A n c, .int .u8 q] 63)) none := World.grownBy_alloc w _ none
  have hsz1 : w.heap.size ≤ (w.alloc (.cells #[.slice A n c, .int .u8 q] 63)).heap.size := by simp
  have HBX := Lib.hid hbox
  have HB1 := Lib.hid hb1
  have HT := Lib.hid ht1
  have HG0 := Lib.hid hg0
  have HR := Lib.hid hr
  have HL1 := Lib.hid hl1
  have HOK := Lib.hid hOk
  have HBD := Lib.hid hbody
  have HJR := Lib.hid hjr
  have HJA := Lib.hid hja
  have HGD := Lib.hid hgd
  have HKV := Lib.hid hokv
  have HO1 := Lib.hid ho1
  have HNB := Lib.hid hnb
  clear hbox hb1 ht1 ht hg0 hr hl1 hOk hbody hjr hja hgd hokv hN hNk ho ho1 hv hbn hnb
  by_cases hn0 : n = 0
  · subst hn0
    rw [if_pos rfl] at HBD
    have HE := Lib.hid (PgEmpty_any true A 0 c q rfl)
    go_enter Tryz.func117, Tryz.ntmps117
    go_wp2_with fail
    refine (HE.out _).mono ?_
    rintro e w1 ⟨rfl, b1⟩
    have H1 := Lib.hid (HO1.out.below b1)
    clear b1
    go_wp2_with fail
    refine (empty_any _ _ bs nb HNB.out (Bf.own_ H1.out) (by omega)).mono ?_
    rintro e w3 ⟨v3, rfl, h3⟩
    have H3 := Lib.hid (H1.out.trans h3)
    clear h3
    go_wp2
    go_ret
    refine ⟨_, rfl, ?_⟩
    have h3 := H3.out.pre_none HG0.out
    rw [HBD.out, ← sepO_empty]
    exact h3
  · rw [if_neg hn0] at HBD
    have HE := Lib.hid (PgEmpty_any false A n c q (decide_eq_false hn0))
    go_enter Tryz.func117, Tryz.ntmps117
    go_wp2_with fail
    refine (HE.out _).mono ?_
    rintro e w1 ⟨rfl, b1⟩
    have h1 := HO1.out.below b1
    clear b1
    go_wp2_with ((at_builtin; refine wpList_bf_append1g rfl _ _ _ rfl Tryz.underlying30 hi0 hz0 hz1 hz2 rfl rfl (by assumption) (by first | rfl | simp) (by first | omega | (simp only [len_app, List.length_cons, List.length_nil]; omega)) ?_; intro v1 W1 h1); have x3 := HBX.out.bf h1 hne; have r0 := x3.cell 0; have r1 := x3.cell 1; simp at r0 r1; clear x3)
    have H3 := Lib.hid h1
    clear h1
    go_loopw [1, 17] (fun u i wr => ∃ k : Nat, k ≤ n ∧ i = .int .i64 k ∧ Bf (w.alloc (.cells #[.slice A n c, .int .u8 q] 63)) wr v.ownBlock u (bs ++ [40] ++ (joinS 44 (kidsT hi lo 3 ks) k ++ if 0 < k ∧ k < n then [44] else []))) (fun _ i _ => n - (intOf i).toNat)
    case atStart => exact ⟨0, Nat.zero_le _, rfl, by simpa [joinS] using H3.out⟩
    case round =>
      obtain ⟨k, hk, rfl, h1⟩ := hrel
      have hjk := HJA.out k (by rw [HL1.out]; exact hk)
      have hwz : w.heap.size + 1 ≤ wr.heap.size := by have := h1.grown.size; simpa using this
      by_cases hlt : k < n
      · obtain ⟨g, x, s, rfl, hgok, hr, hxl, hcl, hrs, hgl⟩ := row_at HL1.out HR.out hlt
        replace hgl := hgl (by decide)
        have hsm : OkT s := HOK.out s (List.mem_of_getElem? hr)
        obtain ⟨rq, rA, rn, rc, rfl, -⟩ := hrs.shape
        have hgv := HKV.out g hgok hgl
        have j0 := cell_at HB1.out h1 hgl hgv (hcl 0 _ rfl)
        have j1 := cell_at HB1.out h1 hgl hgv (hcl 1 _ rfl)
        rw [Nat.add_zero] at j0
        have hstep : joinS 44 (kidsT hi lo 3 ks) (k + 1) = (if 0 < k then joinS 44 (kidsT hi lo 3 ks) k ++ [44] else joinS 44 (kidsT hi lo 3 ks) k) ++ (kidsT hi lo 3 ks).getD k [] := rfl
        rw [HGD.out k s hr] at hstep
        have hstep2 : joinS 44 (kidsT hi lo 3 ks) (k + 1) = (joinS 44 (kidsT hi lo 3 ks) k ++ if 0 < k ∧ k < n then [44] else []) ++ partT hi lo 3 s := by
          rw [hstep]
          by_cases h : 0 < k
          · rw [if_pos h, if_pos ⟨h, hlt⟩]
          · rw [if_neg h, if_neg (fun h' => h h'.1), List.append_nil]
        have hop : opensB (bs ++ [40] ++ (joinS 44 (kidsT hi lo 3 ks) k ++ if 0 < k ∧ k < n then [44] else [])) := by
          by_cases h : 0 < k
          · rw [if_pos ⟨h, hlt⟩, ← List.append_assoc]; exact opensB_44 _
          · obtain rfl : k = 0 := by omega
            rw [if_neg (fun h' => h h'.1)]
            simpa [joinS] using opensB_40 bs
        have hroom := HJR.out k s hr
        have hlk : (bs ++ [40] ++ (joinS 44 (kidsT hi lo 3 ks) k ++ if 0 < k ∧ k < n then [44] else [])).length + 10000 * s.np + 1 ≤ 60000000000000 := by
          have : (if 0 < k ∧ k < n then [44] else ([] : List Int)).length ≤ 1 := by split <;> simp
          simp only [len_app, List.length_cons, List.length_nil]
          omega
        generalize hBT : bs ++ [40] ++ (joinS 44 (kidsT hi lo 3 ks) k ++ if 0 < k ∧ k < n then [44] else []) = BT at *
        have hnext : bs ++ [40] ++ joinS 44 (kidsT hi lo 3 ks) (k + 1) = BT ++ partT hi lo 3 s := by
          rw [hstep2, ← hBT]
          simp only [List.append_assoc]
        have hjk1 := HJA.out (k + 1) (by rw [HL1.out]; exact hlt)
        have hln : (BT ++ partT hi lo 3 s).length ≤ bs.length + 1 + 9000 * SP := by
          rw [← hnext]
          simp only [len_app, List.length_cons, List.length_nil]
          omega
        have HST := Lib.hid hnext
        have HRS := Lib.hid hrs
        have HSM := Lib.hid hsm
        have HLN := Lib.hid hln
        have HOP := Lib.hid hop
        have hA : Below wr.heap.size wr (wr.alloc (.cells #[.int .u8 rq, .slice rA rn rc] 93)) := (Below.refl _ _).alloc (Nat.le_refl _) _
        have HC := Lib.hid (h1.below hA)
        clear hstep hstep2 hrs hcl hr hBT hsm h1 hA hop hnext hln hjk1
        go_wp2_with fail
        with_reducible refine (LsIn_G 3 (by decide) hi lo _ (rel_at LsG.keeps HB1.out HC.out HKV.out (fun b h => h.1) HRS.out) HSM.out _ BT HOP.out (Bf.own_ HC.out) (HT.out.of_bf HC.out hrow) (place_row HC.out hrow HT.out.siz) (place_ok HC.out HKV.out hsz1) (by omega)).mono ?_
        rintro e w5 ⟨v5, rfl, h5⟩
        have h1 := HC.out.trans h5
        clear h5
        have x3 := HBX.out.bf h1 hne
        have r0 := x3.cell 0
        have r1 := x3.cell 1
        simp at r0 r1
        clear x3
        by_cases hk1 : k + 1 < n
        · have hd : decide ((k : Int) + 1 < (n : Int)) = true := decide_eq_true (by omega)
          go_wp2_with (at_builtin; refine wpList_bf_append1g rfl _ _ _ rfl Tryz.underlying30 hi0 hz0 hz1 hz2 rfl rfl (by assumption) (by first | rfl | simp) (by have := HLN.out; omega) ?_; intro v1 W1 h1)
          go_roundw
          case rel =>
            refine ⟨k + 1, by omega, by go_num, ?_⟩
            rw [if_pos ⟨by omega, hk1⟩, ← List.append_assoc, HST.out]
            exact h1
          case measure => simp [intOf]; omega
        · have hd : decide ((k : Int) + 1 < (n : Int)) = false := decide_eq_false (by omega)
          go_wp2
          go_roundw
          case rel =>
            refine ⟨k + 1, by omega, by go_num, ?_⟩
            rw [if_neg (fun h => hk1 h.2), List.append_nil, HST.out]
            exact h1
          case measure => simp [intOf]; omega
      · obtain rfl : n = k := by omega
        rw [if_neg (fun h => hlt h.2), List.append_nil] at h1
        have hlk : (bs ++ [40] ++ joinS 44 (kidsT hi lo 3 ks) n).length ≤ 60000000000000 := by simp only [len_app, List.length_cons, List.length_nil]; omega
        generalize hBT : bs ++ [40] ++ joinS 44 (kidsT hi lo 3 ks) n = BT at *
        have HBT := Lib.hid hBT
        clear hBT
        go_wp2_with (at_builtin; refine wpList_bf_append1g rfl _ _ _ rfl Tryz.underlying30 hi0 hz0 hz1 hz2 rfl rfl (by assumption) (by first | rfl | simp) (by first | omega | (simp only [len_app, List.length_cons, List.length_nil]; omega)) ?_; intro v1 W1 h1)
        go_ret
        refine ⟨_, rfl, ?_⟩
        have h3 := h1.pre_none HG0.out
        have e : BT ++ [41] = bs ++ (sepO bs (bodyT hi lo (.mk 3 q [] ks)) ++ bodyT hi lo (.mk 3 q [] ks)) := by
          rw [HBD.out, List.append_assoc [40], sepO_list, ← HBT.out]
          simp [List.append_assoc]
        rw [e] at h3
        exact h3

set_option maxHeartbeats 4000000 in
set_option maxRecDepth 100000 in
theorem PgWkt_G {ok : Nat → Prop} {A : Option Addr} {n c : Nat} {q : Int} {t : Gm} (hi lo : Nat → Int) (w : World) (h : PgG w ok [.slice A n c, .int .u8 q] t) (ho : OkT t) (v : Value) (bs : List Int) (hv : Own w v bs) (ht : FtTabs w hi lo)
    (hrow : ∀ k, k < 7 → v.ownBlock ≠ some k) (hokv : ∀ b, ok b → b < w.heap.size → v.ownBlock ≠ some b) (hl : bs.length + 100 + 10000 * t.np ≤ 60000000000000) :
    Calls Tryz.prog 71 #[.agg #[.slice A n c, .int .u8 q], v] w fun e w' => ∃ v', e = .returned v' ∧ Bf w w' v.ownBlock v' (bs ++ wktT hi lo t) := by
  obtain ⟨hd, hd0, hd1, hk⟩ : t.d = q ∧ 0 ≤ q ∧ q ≤ 3 ∧ t.k = 3 := by
    obtain ⟨A', n', c', q', ks, rfl, e, q0, q1, -⟩ := h
    simp only [List.cons.injEq, Value.int.injEq, and_true, true_and] at e
    rw [e.2]
    exact ⟨rfl, q0, q1, rfl⟩
  have href := head_ref hi lo (t := t) (by rw [hd]; exact hd0) (by rw [hd]; exact hd1) bs
  rw [hk, hd] at href
  have hnm : strB { data := #[80, 79, 76, 89, 71, 79, 78] } = nameB 3 := rfl
  have htl := tagB_len q
  have hnl : (nameB 3).length = 7 := rfl
  have hb1 : Below w.heap.size w (w.alloc (.cells #[.slice A n c, .int .u8 q] 63)) := (Below.refl _ _).alloc (Nat.le_refl _) _
  have hbox := Blk.new w 63 #[.slice A n c, .int .u8 q]
  have hne : v.ownBlock ≠ some w.heap.size := fun e => by have := (hv.lt _ e).2; omega
  have ht1 := ht.below hb1
  have hg0 : w.grownBy (w.alloc (.cells #[.slice A n c, .int .u8 q] 63)) none := World.grownBy_alloc w _ none
  have hsz1 : w.heap.size ≤ (w.alloc (.cells #[.slice A n c, .int .u8 q] 63)).heap.size := by simp
  have HD := Lib.hid (header_any { data := #[80, 79, 76, 89, 71, 79, 78] } q hd0 hd1 (w.alloc (.cells #[.slice A n c, .int .u8 q] 63)) v bs (hv.alloc _) (by rw [← strB_length, hnm]; omega))
  rw [hnm] at HD
  have HBX := Lib.hid hbox
  have HB1 := Lib.hid hb1
  have HT := Lib.hid ht1
  have HG0 := Lib.hid hg0
  have HH := Lib.hid h
  have HO := Lib.hid ho
  have HKV := Lib.hid hokv
  have HRF := Lib.hid href
  clear hbox hb1 ht1 ht hg0 h ho hokv hnm hv href hd hk
  go_enter Tryz.func71, Tryz.ntmps71
  go_wp2_with fail
  refine HD.out.mono ?_
  rintro e w2 ⟨v2, rfl, h2⟩
  have x2 := HBX.out.bf h2 hne
  have r0 := x2.cell 0
  have r1 := x2.cell 1
  simp at r0 r1
  have hBSl : (bs ++ nameB 3 ++ tagB q).length ≤ bs.length + 22 := by simp only [len_app]; omega
  have hBSn : bs ++ nameB 3 ++ tagB q ≠ [] := by
    intro e
    have := congrArg List.length e
    simp only [len_app, List.length_nil] at this
    omega
  generalize bs ++ nameB 3 ++ tagB q = BS at *
  have HC := Lib.hid h2
  have HBN := Lib.hid hBSn
  clear h2 x2 hBSn
  go_wp2_with fail
  with_reducible refine (PgBody_G hi lo _ (rel_at PgG.keeps HB1.out HC.out HKV.out (fun b h => h) HH.out) HO.out _ BS HBN.out (Bf.own_ HC.out) (HT.out.of_bf HC.out hrow) (place_row HC.out hrow HT.out.siz) (place_ok HC.out HKV.out hsz1) (by omega)).mono ?_
  rintro e w5 ⟨v5, rfl, h5⟩
  have H5 := Lib.hid (HC.out.trans h5)
  clear h5
  go_wp2
  go_ret
  refine ⟨_, rfl, ?_⟩
  have h5 := H5.out.pre_none HG0.out
  rw [HRF.out] at h5
  exact h5

/-- The text of a polygon within its parent. -/
theorem PgIn_G (K : Int) (hK : K ≠ 0) {ok : Nat → Prop} {A : Option Addr} {n c : Nat} {q : Int} {t : Gm} (hi lo : Nat → Int) (w : World) (h : PgG w ok [.slice A n c, .int .u8 q] t) (ho : OkT t) (v : Value) (bs : List Int) (hb : opensB bs) (hv : Own w v bs) (ht : FtTabs w hi lo)
    (hrow : ∀ k, k < 7 → v.ownBlock ≠ some k) (hokv : ∀ b, ok b → b < w.heap.size → v.ownBlock ≠ some b) (hl : bs.length + 10000 * t.np ≤ 60000000000000) :
    Calls Tryz.prog 117 #[.agg #[.slice A n c, .int .u8 q], v] w fun e w' =>
      ∃ v', e = .returned v' ∧ Bf w w' v.ownBlock v' (bs ++ partT hi lo K t) := by
  refine (PgBody_G hi lo w h ho v bs hb.1 hv ht hrow hokv (by omega)).mono ?_
  rintro e w' ⟨v', rfl, hB⟩
  refine ⟨v', rfl, ?_⟩
  rw [sepO_opens hb, List.nil_append] at hB
  unfold partT
  rw [if_neg hK]
  exact hB

end Go.Proofs.YtpbcfgehmalppaaGreatDoor
