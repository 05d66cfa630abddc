/- The reference's text of a geometry that a call has made: writeBody, WriteWKT. -/
import Derived.Test.YtpbcfgehmalppaaGreatDoorPgG
namespace Go.Proofs.YtpbcfgehmalppaaGreatDoor
open Go.RowKit Go.Proofs.YtpbcfgehmalppaaGreatDoorW.PrintLast

attribute [local go_sem] run_store_float

/-- What a call of writeBody does at the cells cs of a geometry t, wherever the blocks of w0 that answer ok keep. -/
def BodyAt (hi lo : Nat → Int) (w0 : World) (ok : Nat → Prop) (cs : List Value) (t : Gm) : Prop :=
  ∀ W : World, (∀ b, ok b → b < w0.heap.size → W.heap[b]? = w0.heap[b]?) → FtTabs W hi lo →
    Calls Tryz.prog 32 #[.agg cs.toArray] W fun e w' => e = .returned (.string (strOfNums (bodyT hi lo t))) ∧ Below W.heap.size W w'
def WktAt (hi lo : Nat → Int) (w0 : World) (ok : Nat → Prop) (cs : List Value) (t : Gm) : Prop :=
  ∀ W : World, (∀ b, ok b → b < w0.heap.size → W.heap[b]? = w0.heap[b]?) → FtTabs W hi lo →
    Calls Tryz.prog 12 #[.agg cs.toArray] W fun e w' => e = .returned (.string (strOfNums (wktT hi lo t))) ∧ Below W.heap.size W w'

/-- Kinds are kinds. -/
inductive KindT : Gm → Prop
  | mk {k d : Int} {ns : List Nat} {ks : List Gm} (h0 : 0 ≤ k) (h1 : k ≤ 6) (hk : ∀ t ∈ ks, KindT t) : KindT (.mk k d ns ks)

set_option maxHeartbeats 8000000 in
set_option maxRecDepth 100000 in
theorem WriteWKT_of {hi lo : Nat → Int} {w0 : World} {ok : Nat → Prop} {cs : List Value} {t : Gm} (h : BodyAt hi lo w0 ok cs t) (hg : GmOn w0 ok cs t) (hk : KindT t) (ho : OkT t) (hl : t.np ≤ 1000000) : WktAt hi lo w0 ok cs t := by
  intro W hW hT
  obtain ⟨k, d, A, K, n, m, c, c', rfl⟩ := hg.shape
  obtain ⟨hyk, hyd⟩ := hg.kd
  have hbl := bodyT_len hi lo hg.nums
  have k0 : 0 ≤ k := by cases hk with | mk a b c => rw [← hyk]; exact a
  have k6 : k ≤ 6 := by cases hk with | mk a b c => rw [← hyk]; exact b
  have d0 : 0 ≤ d := by cases ho with | mk a b c => rw [← hyd]; exact a
  have d3 : d ≤ 3 := by cases ho with | mk a b c => rw [← hyd]; exact b
  have hcall := h
  unfold BodyAt at hcall
  have hwk : wktT hi lo t = headT t (bodyT hi lo t) := rfl
  unfold headT at hwk
  rw [hyk, hyd] at hwk
  generalize wktT hi lo t = WT at *
  generalize bodyT hi lo t = BT at *
  have hWl : ∀ b, ok b → b < w0.heap.size → b < W.heap.size := fun b hb hl => by
    have h1 := hW b hb hl
    rcases Nat.lt_or_ge b W.heap.size with h | h
    · exact h
    · rw [Array.getElem?_eq_none h, Array.getElem?_eq_getElem hl] at h1; cases h1
  have HL := Lib.hid hWl
  have HW := Lib.hid hW
  have HC := Lib.hid hcall
  have HT := Lib.hid hT
  have HWK := Lib.hid hwk
  clear hW hWl hcall hT hwk h hg hk ho hyk hyd
  by_cases hd : d = 0
  · subst hd
    have hw2 : WT = nameB k ++ (if ((strOfNums BT).toList == [69, 77, 80, 84, 89]) = true then [32] else []) ++ BT := by rw [HWK.out]; simp
    have HW2 := Lib.hid hw2
    clear hw2
    go_enter Tryz.func12, Tryz.ntmps12
    go_wp2_with fail
    refine (kindName_any k k0 k6 _).mono ?_
    rintro e w1 ⟨rfl, rfl⟩
    go_wp2_with fail
    refine (HC.out _ (fun b hb hl => (Below.heap_alloc W _ b (HL.out b hb hl)).trans (HW.out b hb hl)) (HT.out.below ((Below.refl _ _).alloc (Nat.le_refl _) _))).mono ?_
    rintro e w2 ⟨rfl, h2⟩
    have x2 := (Blk.new W 25 #[.int .i64 k, .int .i64 0, .slice A n c, .slice K m c']).below h2 (by simp)
    have r1 := x2.cell 1
    simp at r1
    clear x2
    have HB2 := Lib.hid (((Below.refl W.heap.size W).alloc (Nat.le_refl _) (.cells #[.int .i64 k, .int .i64 0, .slice A n c, .slice K m c'] 25)).trans (h2.mono (by simp)))
    clear h2
    have hS : (strOfNums BT).size ≤ 10000000000 := by rw [strOfNums_size]; omega
    have hN : (strOfNums (nameB k)).size ≤ 18 := by rw [strOfNums_size]; exact nameB_len k
    cases hE : ((strOfNums BT).toList == [69, 77, 80, 84, 89])
    · go_wp2
      go_ret
      refine ⟨?_, HB2.out⟩
      rw [HW2.out, if_neg (by rw [hE]; decide), List.append_nil]
      exact congrArg (fun x => Ending.returned (Value.string x)) (strOfNums_app _ _)
    · go_wp2
      go_ret
      refine ⟨?_, HB2.out⟩
      rw [HW2.out, if_pos hE]
      exact congrArg (fun x => Ending.returned (Value.string x)) (by rw [show (ByteArray.mk #[32]) = strOfNums [32] from rfl, strOfNums_app, strOfNums_app])
  · have hne : (d == 0) = false := by rw [beq_eq_false_iff_ne]; exact hd
    have hne2 : (d != 0) = true := by simpa using hd
    rw [if_neg hd, if_pos (.inl hd)] at HWK
    go_enter Tryz.func12, Tryz.ntmps12
    go_wp2_with fail
    refine (kindName_any k k0 k6 _).mono ?_
    rintro e w1 ⟨rfl, rfl⟩
    have hN : (strOfNums (nameB k)).size ≤ 18 := by rw [strOfNums_size]; exact nameB_len k
    have hD : (strOfNums (dimB d)).size ≤ 2 := by rw [strOfNums_size]; exact dimB_len d
    go_wp2_with fail
    refine (dimName_any d d0 d3 _).mono ?_
    rintro e w1 ⟨rfl, rfl⟩
    have hS : (strOfNums BT).size ≤ 10000000000 := by rw [strOfNums_size]; omega
    go_wp2_with fail
    refine (HC.out _ (fun b hb hl => (Below.heap_alloc W _ b (HL.out b hb hl)).trans (HW.out b hb hl)) (HT.out.below ((Below.refl _ _).alloc (Nat.le_refl _) _))).mono ?_
    rintro e w2 ⟨rfl, h2⟩
    have x2 := (Blk.new W 25 #[.int .i64 k, .int .i64 d, .slice A n c, .slice K m c']).below h2 (by simp)
    have r1 := x2.cell 1
    simp at r1
    clear x2
    have HB2 := Lib.hid (((Below.refl W.heap.size W).alloc (Nat.le_refl _) (.cells #[.int .i64 k, .int .i64 d, .slice A n c, .slice K m c'] 25)).trans (h2.mono (by simp)))
    clear h2
    go_wp2
    go_ret
    refine ⟨?_, HB2.out⟩
    rw [HWK.out]
    exact congrArg (fun x => Ending.returned (Value.string x)) (by rw [show (ByteArray.mk #[32]) = strOfNums [32] from rfl]; simp only [strOfNums_app, List.append_assoc])

theorem numt_of {w0 : World} {ok : Nat → Prop} {css : List (List Value)} {ks : List Gm} {m : Nat} (hs : ∀ (i : Nat) (x : List Value) (t : Gm), css[i]? = some x → ks[i]? = some t → GmOn w0 ok x t) (ec : css.length = m) (em : ks.length = m) : ∀ t ∈ ks, NumT t := fun t ht => by
  obtain ⟨q, hq⟩ := List.mem_iff_getElem?.1 ht
  have hl : q < css.length := by
    have := (List.getElem?_eq_some_iff.1 hq).1
    omega
  exact (hs q _ t (List.getElem?_eq_getElem hl) hq).nums

set_option maxHeartbeats 20000000 in
set_option maxRecDepth 100000 in
theorem writeBody_any {hi lo : Nat → Int} {w0 : World} {ok : Nat → Prop} {cs : List Value} {t : Gm} (h : GmOn w0 ok cs t) : KindT t → OkT t → t.np ≤ 1000000 → BodyAt hi lo w0 ok cs t := by
  induction h with
  | @mk k d ns ks n m A K c c' css en hn hb em ec el hk hs ih =>
    intro hkt hok hnp W hW hT
    cases hkt with
    | mk k0 k6 hk3 =>
    cases hok with
    | mk h0 h1 hn' hm hk2 =>
    have HWl : Hid (∀ b, ok b → b < w0.heap.size → b < W.heap.size) := Lib.hid fun b hb hl => by
      have h1 := hW b hb hl
      rcases Nat.lt_or_ge b W.heap.size with h | h
      · exact h
      · rw [Array.getElem?_eq_none h, Array.getElem?_eq_getElem hl] at h1; cases h1
    have HW := Lib.hid hW
    have HT := Lib.hid hT
    have HN := Lib.hid hn
    have HK := Lib.hid hk
    have HS := Lib.hid hs
    have HI := Lib.hid ih
    have HE := Lib.hid el
    have HK2 := Lib.hid hk2
    have HK3 := Lib.hid hk3
    have HEN := Lib.hid en
    have HEM := Lib.hid em
    have HEC := Lib.hid ec
    have HB := Lib.hid hb
    have HNP := Lib.hid hnp
    clear hW hT hn hk hs ih el hk2 hk3 em ec hb hnp
    have hA2 : ∃ g, 0 < n → A = some ⟨g, 0, none⟩ ∧ ∀ j, j < n → W.cell? ⟨g, j, none⟩ = some (.float .f64 (ns.getD j 0)) := by
      by_cases hp : 0 < n
      · obtain ⟨g, e, hg, hc⟩ := HN.out hp
        exact ⟨g, fun _ => ⟨e, fun j hj => (World.cell?_of_block (HW.out g hg (cell_lt (hc 0 hp)))).trans (hc j hj)⟩⟩
      · exact ⟨0, fun h => absurd h hp⟩
    obtain ⟨gA, hA2⟩ := hA2
    have HA := Lib.hid hA2
    clear hA2
    have hwp := wd_pos d
    have hmm : m ≤ 100000 := by have := HEM.out; omega
    have hbox := Blk.new W 25 #[.int .i64 k, .int .i64 d, .slice A n c, .slice K m c']
    have hn1 : n ≤ 1000000000 := by have := HEN.out; have hw := wd_cases d h0 h1; rcases hw with ⟨_, h⟩ | ⟨_, h⟩ | ⟨_, h⟩ | ⟨_, h⟩ <;> rw [h] at hn' <;> omega
    have hpl := Places_any d h0 h1 gA n c A ns (W.alloc (.cells #[.int .i64 k, .int .i64 d, .slice A n c, .slice K m c'] 25)) (fun hp => by
      obtain ⟨e, hc⟩ := HA.out hp
      exact ⟨e, fun j hj => by rw [World.cell?_alloc_lt _ _ _ (cell_lt (hc j hj))]; exact hc j hj⟩) hn1
    have hBT : bodyT hi lo (.mk k d ns ks) = listB ((ptsN d ns (n / wd d)).map (placeT hi lo d) ++ ks.map (partT hi lo k)) := by rw [bodyT_mk]; unfold partsB; rw [HEN.out]
    have hpb : partsB hi lo k d ns ks = (ptsN d ns (n / wd d)).map (placeT hi lo d) ++ ks.map (partT hi lo k) := by unfold partsB; rw [HEN.out]
    have hpsm := parts_sum hi lo k d ns ks HB.out (fun t ht => bodyT_len hi lo (numt_of HS.out HEC.out HEM.out t ht))
    rw [HEN.out] at hpsm
    have hpn := np_mk k d ns ks
    rw [HEN.out] at hpn hn'
    have hpln := ptsN_length d ns (n / wd d)
    have hpll := places_len hi lo d ns HB.out (n / wd d)
    have hplb := fun i => plNums_lt d ns i HB.out
    have hplc : ∀ q, q < n / wd d → (ptsN d ns (n / wd d))[q]? = some (ptN d ns q) := fun q hq => by unfold ptsN; simp [hq]
    generalize hr : n / wd d = r at *
    generalize bodyT hi lo (.mk k d ns ks) = BT at *
    generalize hPS : ptsN d ns r = ps at *
    have HBT := Lib.hid hBT
    have HPN := Lib.hid hpn
    have HPSM := Lib.hid hpsm
    have HPB := Lib.hid hpb
    have HPLN := Lib.hid hpln
    have HPLL := Lib.hid hpll
    have HPLB := Lib.hid hplb
    have HPLC := Lib.hid hplc
    have HPL := Lib.hid hpl
    have HBOX := Lib.hid hbox
    clear hBT hpn hpsm hpb hpln hpll hplb hplc hpl hbox hr hPS
    obtain ⟨i0, hi0, hz0, hz1, hz2⟩ := info_parts info_str
    go_enter Tryz.func32, Tryz.ntmps32
    go_wp2_with fail
    refine HPL.out.mono ?_
    rintro e w1 ⟨v1, rfl, k1⟩
    have hw1 := k1.below0
    have hx1 := HBOX.out.below hw1 (by simp)
    have hb1 : Below W.heap.size W w1 := ((Below.refl W.heap.size W).alloc (Nat.le_refl _) _).trans (hw1.mono (by simp))
    have hs1 : W.heap.size + 1 ≤ w1.heap.size := by have := hw1.size; simpa using this
    obtain ⟨A1, c1, rfl, hv1⟩ := own_shp k1.own
    have hpa : 0 < r → ∃ g, A1 = some ⟨g, 0, none⟩ ∧ PlAt w1 g ps := fun h => by
      obtain ⟨g, e, _⟩ := hv1 h
      exact ⟨g, e, plAt_of_own k1.own e⟩
    have HPA := Lib.hid hpa
    have X1 := Lib.hid hx1
    have HB1 := Lib.hid hb1
    clear k1 hw1 hx1 hb1 hv1 hpa
    go_wp2_with fail
    go_loopw [3, 17] (fun u i wr => ∃ q : Nat, q ≤ r ∧ i = .int .i64 q ∧ Rw 9 w1 wr none u (strsV ((ps.map (placeT hi lo d)).take q))) (fun _ i _ => r - (intOf i).toNat)
    case atStart => exact ⟨0, Nat.zero_le _, rfl, Rw.nil _ _⟩
    case round =>
      obtain ⟨q, hq, rfl, hrw⟩ := hrel
      have hlq : (strsV ((ps.map (placeT hi lo d)).take q)).length ≤ q := by rw [strsV_length]; exact List.length_take_le _ _
      by_cases hlt : q < r
      · obtain ⟨g, rfl, hpg⟩ := HPA.out (by omega)
        have hpq := HPLC.out q hlt
        obtain ⟨c0', c1', c2', c3'⟩ := hpg.below hrw.below0 q _ hpq
        have hts : (ps.map (placeT hi lo d)).take (q + 1) = (ps.map (placeT hi lo d)).take q ++ [placeT hi lo d (ptN d ns q)] := by
          rw [List.take_add_one, List.getElem?_map, hpq]
          rfl
        have hpb := HPLB.out q
        have hbx := (X1.out.below hrw.below0 X1.out.lt).alloc (.cells #[.float .f64 (ptN d ns q).1, .float .f64 (ptN d ns q).2.1, .float .f64 (ptN d ns q).2.2.1, .float .f64 (ptN d ns q).2.2.2] 88)
        generalize ptN d ns q = p at *
        obtain ⟨px, py, pz, pm⟩ := p
        have hsr : W.heap.size + 1 ≤ wr.heap.size := by have := hrw.below0.size; omega
        have r1 : ∀ o : Obj, (wr.alloc o).cell? ⟨W.heap.size, 1, none⟩ = some (.int .i64 d) := fun o => (((X1.out.below hrw.below0 X1.out.lt).alloc o).cell 1).trans rfl
        have HTS := Lib.hid hts
        have HPB := Lib.hid hpb
        generalize hxs : strsV ((ps.map (placeT hi lo d)).take q) = xs at *
        have HXS := Lib.hid hxs
        have HRW := Lib.hid hrw
        have HTW : Hid (FtTabs (wr.alloc (.cells #[.float .f64 px, .float .f64 py, .float .f64 pz, .float .f64 pm] 88)) hi lo) := Lib.hid ((HT.out.below (HB1.out.trans (hrw.below0.mono (by omega)))).below ((Below.refl _ _).alloc (Nat.le_refl _) _))
        clear hts hpb hxs hrw hbx hpg hpq
        go_wp2_with fail
        refine (writePlace_any px py pz pm d hi lo _ HTW.out HPB.out).mono ?_
        rintro e w2 ⟨rfl, h2⟩
        have h3 : Rw 9 w1 w2 none u3 xs := (HRW.out.alloc _).below h2
        clear h2
        generalize hTT : strOfNums (placeT hi lo d (px, py, pz, pm)) = T at *
        have HTT := Lib.hid hTT
        clear hTT c0' c1' c2' c3'
        go_wp2_with (at_builtin; refine wpList_rw_append rfl _ _ _ rfl Tryz.underlying36 hi0 hz0 rfl hz1 hz2 rfl rfl (by assumption) (by first | rfl | simp) rfl (by simp [Value.oneCell']) (by first | omega | (simp only [len_appV, List.length_cons, List.length_nil]; omega)) (by first | omega | (simp only [len_appV, List.length_cons, List.length_nil]; omega)) ?_; intro v1 W1 h2)
        go_roundw
        case rel =>
          refine ⟨q + 1, by omega, by go_num, ?_⟩
          rw [HTS.out, strsV_append, HXS.out]
          have e : strsV [placeT hi lo d (px, py, pz, pm)] = [.string T] := by rw [← HTT.out]; rfl
          rw [e]
          exact h2
        case measure => simp [intOf]; omega
      · obtain rfl : r = q := by omega
        rw [List.take_of_length_le (by rw [List.length_map, HPLN.out]; exact Nat.le_refl _)] at hrw
        have HRW := Lib.hid hrw
        have hbx := X1.out.below hrw.below0 X1.out.lt
        have X2 := Lib.hid hbx
        have r3 := hbx.cell 3
        simp at r3
        have HB2 := Lib.hid (HB1.out.trans (hrw.below0.mono (by omega)))
        have hs2 : W.heap.size + 1 ≤ wr.heap.size := by have := hrw.below0.size; omega
        clear hrw hbx
        clear hlq
        go_wp2_with fail
        go_loopw [3, 32] (fun u i wr => ∃ q : Nat, q ≤ m ∧ i = .int .i64 q ∧ Rw 9 w1 wr none u (strsV (ps.map (placeT hi lo d) ++ (ks.map (partT hi lo k)).take q))) (fun _ i _ => m - (intOf i).toNat)
        case atStart => exact ⟨0, Nat.zero_le _, rfl, by rw [List.take_zero, List.append_nil]; exact HRW.out⟩
        case round =>
          obtain ⟨q, hq, rfl, hrw⟩ := hrel
          have hem := HEM.out
          have hlq : (strsV (ps.map (placeT hi lo d) ++ (ks.map (partT hi lo k)).take q)).length ≤ 200000 := by
            have := List.length_take_le q (ks.map (partT hi lo k))
            rw [strsV_length, List.length_append, List.length_map, HPLN.out]
            omega
          by_cases hlt : q < m
          · have hkq : ks[q]? = some (ks[q]'(by rw [HEM.out]; exact hlt)) := List.getElem?_eq_getElem _
            have hcq : css[q]? = some (css[q]'(by rw [HEC.out]; exact hlt)) := List.getElem?_eq_getElem _
            have hkm : (ks[q]'(by rw [HEM.out]; exact hlt)) ∈ ks := List.getElem_mem _
            generalize (ks[q]'(by rw [HEM.out]; exact hlt)) = t at hkq hkm
            generalize (css[q]'(by rw [HEC.out]; exact hlt)) = x at hcq
            have hx := HS.out q x t hcq hkq
            have hnpt : t.np ≤ 1000000 := by have := np_mem hkm; have := HNP.out; have := HPN.out; omega
            have hbody := HI.out q x t hcq hkq (HK3.out t hkm) (HK2.out t hkm) hnpt
            have hwkt := WriteWKT_of hbody hx (HK3.out t hkm) (HK2.out t hkm) hnpt
            obtain ⟨xk, xd, xA, xK, xn, xm, xc, xc', rfl⟩ := hx.shape
            obtain ⟨gK, rfl, hgK, hcK⟩ := HK.out (by omega)
            have hgl : gK < w0.heap.size := by
              have := flat_at HE.out hcq (j := 0) (by omega)
              exact cell_lt (hcK _ _ this)
            have hgW := HWl.out gK hgK hgl
            have hbw : Below W.heap.size W wr := HB1.out.trans (hrw.below0.mono (by omega))
            have hck : ∀ j u, css.flatten[j]? = some u → wr.cell? ⟨gK, j, none⟩ = some u := fun j u hu =>
              (World.cell?_of_block ((hbw.block gK hgW).trans (HW.out gK hgK hgl))).trans (hcK j u hu)
            obtain ⟨d0', d1', d2', d3'⟩ := kid_cells HE.out hck hcq
            have HAG : Hid (∀ b, ok b → b < w0.heap.size → (wr.alloc (.cells #[.int .i64 xk, .int .i64 xd, .slice xA xn xc, .slice xK xm xc'] 25)).heap[b]? = w0.heap[b]?) :=
              Lib.hid fun b hb hl => (Below.heap_alloc _ _ b (Nat.lt_of_lt_of_le (HWl.out b hb hl) hbw.size)).trans ((hbw.block b (HWl.out b hb hl)).trans (HW.out b hb hl))
            have HTW : Hid (FtTabs (wr.alloc (.cells #[.int .i64 xk, .int .i64 xd, .slice xA xn xc, .slice xK xm xc'] 25)) hi lo) := Lib.hid ((HT.out.below hbw).below ((Below.refl _ _).alloc (Nat.le_refl _) _))
            have hts : ps.map (placeT hi lo d) ++ (ks.map (partT hi lo k)).take (q + 1) = (ps.map (placeT hi lo d) ++ (ks.map (partT hi lo k)).take q) ++ [partT hi lo k t] := by
              rw [List.take_add_one, List.getElem?_map, hkq, List.append_assoc]
              rfl
            have hbx := X1.out.below hrw.below0 X1.out.lt
            have hsr : W.heap.size + 1 ≤ wr.heap.size := by have := hrw.below0.size; omega
            have r0 : ∀ o : Obj, (wr.alloc o).cell? ⟨W.heap.size, 0, none⟩ = some (.int .i64 k) := fun o => ((hbx.alloc o).cell 0).trans rfl
            have HTS := Lib.hid hts
            generalize hxs : strsV (ps.map (placeT hi lo d) ++ (ks.map (partT hi lo k)).take q) = xs at *
            have HXS := Lib.hid hxs
            have HRW2 := Lib.hid hrw
            unfold BodyAt at hbody
            unfold WktAt at hwkt
            clear hts hxs hrw hbx hkq hcq hkm hx hcK hck hbw hem
            by_cases hk0 : k = 0
            · have e1 : (k == 0) = true := by rw [beq_iff_eq]; exact hk0
              have HC := Lib.hid hwkt
              have HK0 := Lib.hid hk0
              clear hbody hwkt hk0
              go_wp2_with fail
              refine (HC.out _ HAG.out HTW.out).mono ?_
              rintro e w2 ⟨rfl, h2⟩
              have h3 : Rw 9 w1 w2 none u3 xs := (HRW2.out.alloc _).below h2
              clear h2
              generalize hTT : strOfNums (wktT hi lo t) = T at *
              have HTT := Lib.hid hTT
              clear hTT
              go_wp2_with (at_builtin; refine wpList_rw_append rfl _ _ _ rfl Tryz.underlying36 hi0 hz0 rfl hz1 hz2 rfl rfl (by assumption) (by first | rfl | simp) rfl (by simp [Value.oneCell']) (by first | omega | (simp only [len_appV, List.length_cons, List.length_nil]; omega)) (by first | omega | (simp only [len_appV, List.length_cons, List.length_nil]; omega)) ?_; intro v1 W1 h2)
              go_roundw
              case rel =>
                refine ⟨q + 1, by omega, by go_num, ?_⟩
                rw [HTS.out, strsV_append, HXS.out]
                have e : strsV [partT hi lo k t] = [.string T] := by rw [← HTT.out]; unfold partT; rw [if_pos HK0.out]; rfl
                rw [e]
                exact h2
              case measure => simp [intOf]; omega
            · have e1 : (k == 0) = false := by rw [beq_eq_false_iff_ne]; exact hk0
              have HC := Lib.hid hbody
              have HK0 := Lib.hid hk0
              clear hbody hwkt hk0
              go_wp2_with fail
              refine (HC.out _ HAG.out HTW.out).mono ?_
              rintro e w2 ⟨rfl, h2⟩
              have h3 : Rw 9 w1 w2 none u3 xs := (HRW2.out.alloc _).below h2
              clear h2
              generalize hTT : strOfNums (bodyT hi lo t) = T at *
              have HTT := Lib.hid hTT
              clear hTT
              go_wp2_with (at_builtin; refine wpList_rw_append rfl _ _ _ rfl Tryz.underlying36 hi0 hz0 rfl hz1 hz2 rfl rfl (by assumption) (by first | rfl | simp) rfl (by simp [Value.oneCell']) (by first | omega | (simp only [len_appV, List.length_cons, List.length_nil]; omega)) (by first | omega | (simp only [len_appV, List.length_cons, List.length_nil]; omega)) ?_; intro v1 W1 h2)
              go_roundw
              case rel =>
                refine ⟨q + 1, by omega, by go_num, ?_⟩
                rw [HTS.out, strsV_append, HXS.out]
                have e : strsV [partT hi lo k t] = [.string T] := by rw [← HTT.out]; unfold partT; rw [if_neg HK0.out]; rfl
                rw [e]
                exact h2
              case measure => simp [intOf]; omega
          · obtain rfl : m = q := by omega
            rw [List.take_of_length_le (by rw [List.length_map, HEM.out]; exact Nat.le_refl _)] at hrw
            have hpsum := HPSM.out
            have hpb : partsB hi lo k d ns ks = ps.map (placeT hi lo d) ++ ks.map (partT hi lo k) := HPB.out
            rw [hpb] at hpsum
            have hcnt : (ps.map (placeT hi lo d) ++ ks.map (partT hi lo k)).length = r + m := by rw [List.length_append, List.length_map, List.length_map, HPLN.out, HEM.out]
            have hBT := HBT.out
            generalize ps.map (placeT hi lo d) ++ ks.map (partT hi lo k) = PP at *
            have hNb : PP.length ≤ 200000 := by omega
            have hjb : ∀ q, q ≤ PP.length → (joinS 44 PP q).length ≤ 9000000000 := fun q hq => by
              have h1 := joinS_sum 44 PP q hq
              have h2 := sum_take PP q
              have h3 := HNP.out
              have h4 := HPN.out
              omega
            have hpe : ∀ q, q < PP.length → (PP.getD q []).length ≤ 9000000000 := fun q hq => by
              have h1 := sum_le_mem (fun p : List Int => p.length + 1) PP (PP.getD q []) (by rw [List.getD_eq_getElem?_getD, List.getElem?_eq_getElem hq]; exact List.getElem_mem hq)
              have h3 := HNP.out
              have h4 := HPN.out
              have h5 : (PP.getD q []).length + 1 ≤ (PP.map fun p => p.length + 1).sum := h1
              omega
            have hfin : Below W.heap.size W wr := HB1.out.trans (hrw.below0.mono (by omega))
            generalize hN : PP.length = N at *
            have hv : ∃ A c, u3 = .slice A N c := by
              rcases hrw.own.2 with ⟨rfl, h0⟩ | ⟨g, cap, cur, rfl, _⟩
              · rw [strsV_length, hN] at h0; rw [h0]; exact ⟨none, 0, rfl⟩
              · exact ⟨_, cap, by rw [strsV_length, hN]⟩
            obtain ⟨A3, c3, rfl⟩ := hv
            have HNN := Lib.hid hN
            have HRW3 := Lib.hid hrw
            have HJB := Lib.hid hjb
            have HPE := Lib.hid hpe
            have HFIN := Lib.hid hfin
            have HBT2 := Lib.hid hBT
            clear hN hrw hjb hpe hfin hBT hpsum hpb hcnt
            by_cases hN0 : N = 0
            · subst hN0
              obtain rfl := List.eq_nil_of_length_eq_zero HNN.out
              go_wp2
              go_ret
              exact ⟨by rw [HBT2.out]; rfl, HFIN.out⟩
            · have e0 : ((N : Int) == 0) = false := by rw [beq_eq_false_iff_ne]; omega
              go_wp2_with fail
              go_loopw [8, 55] (fun u i w5 => ∃ (q : Nat) (S : ByteArray), q ≤ N ∧ i = .int .i64 q ∧ u = .string S ∧ Hid (S = strOfNums ([40] ++ joinS 44 PP q)) ∧ w5 = wr) (fun _ i _ => N - (intOf i).toNat)
              case atStart => exact ⟨0, ByteArray.mk #[40], Nat.zero_le _, rfl, rfl, rfl, rfl⟩
              case round =>
                obtain ⟨q, S, hq, rfl, rfl, HSS, rfl⟩ := hrel
                have hSl : S.size ≤ 9000000001 := by
                  rw [HSS.out, strOfNums_size, List.length_append]
                  have := HJB.out q hq
                  simp only [List.length_cons, List.length_nil]
                  omega
                by_cases hlt : q < N
                · obtain ⟨g, cp, hvv, hcc⟩ := HRW3.out.cell (k := q) (by rw [strsV_length, HNN.out]; exact hlt)
                  injection hvv with hA' _ hc
                  subst hA'
                  have hkl : q < PP.length := by rw [HNN.out]; exact hlt
                  have hcell : wr.cell? ⟨g, q, none⟩ = some (.string (strOfNums (PP.getD q []))) := by
                    rw [hcc]
                    simp [strsV, List.getD_eq_getElem?_getD, List.getElem?_eq_getElem hkl]
                  have hTl : (strOfNums (PP.getD q [])).size ≤ 9000000000 := by rw [strOfNums_size]; exact HPE.out q hlt
                  have hstep : joinS 44 PP (q + 1) = (if 0 < q then joinS 44 PP q ++ [44] else joinS 44 PP q) ++ PP.getD q [] := rfl
                  have HST := Lib.hid hstep
                  clear hcc hc hstep
                  generalize hTT : strOfNums (PP.getD q []) = T at *
                  have HTT := Lib.hid hTT
                  clear hTT
                  by_cases hk0 : 0 < q
                  · go_wp2
                    go_roundw
                    case rel =>
                      refine ⟨q + 1, _, by omega, by go_num, rfl, ?_, by first | rfl | trivial⟩
                      show _ = _
                      rw [HST.out, if_pos hk0, HSS.out, ← HTT.out, show (ByteArray.mk #[44]) = strOfNums [44] from rfl, strOfNums_app, strOfNums_app]
                      simp only [List.append_assoc]
                    case measure => simp [intOf]; omega
                  · obtain rfl : q = 0 := by omega
                    go_wp2
                    go_roundw
                    case rel =>
                      refine ⟨1, _, by omega, by go_num, rfl, ?_, by first | rfl | trivial⟩
                      show _ = _
                      rw [HST.out, if_neg (by omega), HSS.out, ← HTT.out, strOfNums_app]
                      simp only [List.append_assoc]
                    case measure => simp [intOf]; omega
                · obtain rfl : N = q := by omega
                  go_wp2
                  go_ret
                  refine ⟨?_, HFIN.out⟩
                  have e : strOfNums (listB PP) = S ++ ByteArray.mk #[41] := by
                    unfold listB
                    rw [if_neg (fun e => hN0 (by rw [← HNN.out, e]; rfl)), HSS.out, HNN.out, ← strOfNums_app]
                    rfl
                  rw [HBT2.out, e]
                  rfl

end Go.Proofs.YtpbcfgehmalppaaGreatDoor
