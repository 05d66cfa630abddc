/- The reference's GeoJSON of what has no points for parts. -/
import Derived.Test.YtpbcfgehmalppaaGreatDoorPgH
import Derived.Test.YtpbcfgehmalppaaGreatDoorPgI
import Derived.Test.YtpbcfgehmalppaaGreatDoorJsG
import Derived.Laws.IdiomStrings
import Derived.Deep.RegionWith
namespace Go.Proofs.YtpbcfgehmalppaaGreatDoor
open Go.RowKit Go.Proofs.YtpbcfgehmalppaaGreatDoorW.PrintLast

attribute [local go_sem] run_store_float

theorem coordJ_len (hi lo : Nat → Int) (q : Int) (p : Pl) (h0 : p.1 < 18446744073709551616) (h1 : p.2.1 < 18446744073709551616) (h2 : p.2.2.1 < 18446744073709551616) : (coordJ hi lo q p).length ≤ 6000 := by
  have l0 := ftoaV_len hi lo _ h0
  have l1 := ftoaV_len hi lo _ h1
  have l2 := ftoaV_len hi lo _ h2
  unfold coordJ
  split <;> simp only [List.length_append, List.length_cons, List.length_nil] <;> omega

theorem json_any (v : Value) (w : World) : Calls Tryz.prog 36 #[v, .nilIface] w fun e w' => e = .returned (.tuple #[v, .bool true]) ∧ w' = w := by
  go_enter Tryz.func36, Tryz.ntmps36
  go_wp2
  go_ret2
  exact ⟨rfl, rfl⟩

theorem strOfNums_strB (s : ByteArray) : strOfNums (strB s) = s := by
  obtain ⟨⟨l⟩⟩ := s
  unfold strOfNums strB
  congr 1
  simp [List.map_map, Function.comp_def]

theorem cells_of_string (w : World) (s : ByteArray) (c T : Nat) (fr : Nat × Nat) : ∀ i, i < s.size → (w.alloc (.cells (bytesRow s c) T fr)).cell? ⟨w.heap.size, i, none⟩ = some (.int .u8 ((strB s).getD i 0)) := by
  intro i hi
  have h : (w.alloc (.cells (bytesRow s c) T fr)).heap[w.heap.size]? = some (.cells (bytesRow s c) T fr) := by
    show (w.heap.push _)[w.heap.size]? = _
    simp
  rw [cell_of_row _ _ i _ _ _ h, bytesRow_at s c i hi]
  have hj : i < s.data.toList.length := hi
  simp only [strB, List.getD_eq_getElem?_getD, List.getElem?_map, List.getElem?_eq_getElem hj]
  rfl

/-- No part is a point. -/
inductive LineT : Gm → Prop
  | mk {k d : Int} {ns : List Nat} {ks : List Gm} (h : k ≠ 1) (hk : ∀ t ∈ ks, LineT t) : LineT (.mk k d ns ks)
theorem line_k {t : Gm} {k : Int} (h : LineT t) (hk : t.k = k) : k ≠ 1 := by
  cases h with
  | mk h _ => rw [← hk]; exact h
/-- What stands behind the name in GeoJSON. -/
def jbodyT (hi lo : Nat → Int) : Gm → List Int
  | .mk _ d ns ks => listJ ((ptsN d ns (ns.length / wd d)).map (coordJ hi lo d) ++ ks.attach.map fun x => jbodyT hi lo x.1)
decreasing_by all_goals (have := List.sizeOf_lt_of_mem x.2; simp; omega)
def partsJ (hi lo : Nat → Int) (d : Int) (ns : List Nat) (ks : List Gm) : List (List Int) := (ptsN d ns (ns.length / wd d)).map (coordJ hi lo d) ++ ks.map (jbodyT hi lo)
theorem jbodyT_mk (hi lo : Nat → Int) (k d : Int) (ns : List Nat) (ks : List Gm) : jbodyT hi lo (.mk k d ns ks) = listJ (partsJ hi lo d ns ks) := by
  rw [jbodyT]
  unfold partsJ
  congr 2
  have e : ∀ f : Gm → List Int, (ks.attach.map fun x => f x.1) = ks.map f := fun f => by simp
  exact e (jbodyT hi lo)
theorem joinJ_eq (ps : List (List Int)) : ∀ k, joinJ ps k = joinS 44 ps k
  | 0 => rfl
  | k + 1 => by
    unfold joinJ joinS
    rw [joinJ_eq ps k]
theorem coordsJ_len (hi lo : Nat → Int) (d : Int) (ns : List Nat) (h : ∀ b ∈ ns, b < 18446744073709551616) (r : Nat) : ∀ p ∈ (ptsN d ns r).map (coordJ hi lo d), p.length ≤ 6000 := by
  intro p hp
  obtain ⟨q, hq, rfl⟩ := List.mem_map.1 hp
  unfold ptsN at hq
  obtain ⟨i, _, rfl⟩ := List.mem_map.1 hq
  obtain ⟨h0, h1, h2, _⟩ := ptN_lt' d ns i h
  exact coordJ_len hi lo d _ h0 h1 h2
theorem listJ_len (ps : List (List Int)) : (listJ ps).length ≤ (ps.map fun p => p.length + 1).sum + 2 := by
  unfold listJ
  rw [joinJ_eq]
  have h := joinS_sum 44 ps ps.length (Nat.le_refl _)
  rw [List.take_length] at h
  simp only [List.length_append, List.length_cons, List.length_nil]
  omega
theorem partsJ_sum (hi lo : Nat → Int) (d : Int) (ns : List Nat) (ks : List Gm) (hb : ∀ b ∈ ns, b < 18446744073709551616) (ih : ∀ t ∈ ks, (jbodyT hi lo t).length + 1000 ≤ 9000 * t.np) :
    ((partsJ hi lo d ns ks).map fun p => p.length + 1).sum ≤ 9000 * (ns.length / wd d) + 9000 * (ks.map Gm.np).sum := by
  unfold partsJ
  rw [List.map_append, List.sum_append]
  have a1 : (((ptsN d ns (ns.length / wd d)).map (coordJ hi lo d)).map fun p => p.length + 1).sum ≤ 9000 * (ns.length / wd d) := by
    have := sum_le (fun p : List Int => p.length + 1) (fun _ => 9000 * 1) ((ptsN d ns (ns.length / wd d)).map (coordJ hi lo d)) (fun p hp => by have := coordsJ_len hi lo d ns hb _ p hp; show _ ≤ _; omega)
    refine Nat.le_trans this ?_
    rw [sum_const, List.length_map, ptsN_length]
    omega
  have a2 : ((ks.map (jbodyT hi lo)).map fun p => p.length + 1).sum ≤ 9000 * (ks.map Gm.np).sum := by
    rw [List.map_map, ← sum_mul]
    refine sum_le _ _ ks (fun t ht => ?_)
    have h3 := ih t ht
    show (jbodyT hi lo t).length + 1 ≤ _
    omega
  omega
theorem jbodyT_len (hi lo : Nat → Int) {t : Gm} (h : NumT t) : (jbodyT hi lo t).length + 1000 ≤ 9000 * t.np := by
  induction h with
  | @mk k d ns ks hb hk ih =>
    rw [jbodyT_mk, np_mk]
    have h1 := listJ_len (partsJ hi lo d ns ks)
    have h2 := partsJ_sum hi lo d ns ks hb ih
    generalize ns.length / wd d = r at *
    omega

/-- What a call of jsonBody does at the cells cs of a geometry t, wherever the blocks of w0 that answer ok keep. -/
def JBodyAt (hi lo : Nat → Int) (w0 : World) (ok : Nat → Prop) (cs : List Value) (t : Gm) : Prop :=
  ∀ W : World, (∀ b, ok b → b < w0.heap.size → W.heap[b]? = w0.heap[b]?) → FtTabs W hi lo →
    Calls Tryz.prog 40 #[.agg cs.toArray] W fun e w' => e = .returned (.string (strOfNums (jbodyT hi lo t))) ∧ Below W.heap.size W w'

set_option maxHeartbeats 20000000 in
set_option maxRecDepth 100000 in
theorem jsonBody_any {hi lo : Nat → Int} {w0 : World} {ok : Nat → Prop} {cs : List Value} {t : Gm} (h : GmOn w0 ok cs t) : LineT t → OkT t → t.np ≤ 1000000 → JBodyAt hi lo w0 ok cs t := by
  induction h with
  | @mk k d ns ks n m A K c c' css en hn hb em ec el hk hs ih =>
    intro hkt hok hnp W hW hT
    cases hkt with
    | mk hk1 hk3 =>
    cases hok with
    | mk h0 h1 hn' hm hk2 =>
    have HWl : Hid (∀ b, ok b → b < w0.heap.size → b < W.heap.size) := Lib.hid fun b hb hl => by
      have h1 := hW b hb hl
      rcases Nat.lt_or_ge b W.heap.size with h | h
      · exact h
      · rw [Array.getElem?_eq_none h, Array.getElem?_eq_getElem hl] at h1; cases h1
    have HW := Lib.hid hW
    have HT := Lib.hid hT
    have HN := Lib.hid hn
    have HK := Lib.hid hk
    have HS := Lib.hid hs
    have HI := Lib.hid ih
    have HE := Lib.hid el
    have HK2 := Lib.hid hk2
    have HK3 := Lib.hid hk3
    have HEN := Lib.hid en
    have HEM := Lib.hid em
    have HEC := Lib.hid ec
    have HB := Lib.hid hb
    have HNP := Lib.hid hnp
    clear hW hT hn hk hs ih el hk2 hk3 em ec hb hnp
    have hA2 : ∃ g, 0 < n → A = some ⟨g, 0, none⟩ ∧ ∀ j, j < n → W.cell? ⟨g, j, none⟩ = some (.float .f64 (ns.getD j 0)) := by
      by_cases hp : 0 < n
      · obtain ⟨g, e, hg, hc⟩ := HN.out hp
        exact ⟨g, fun _ => ⟨e, fun j hj => (World.cell?_of_block (HW.out g hg (cell_lt (hc 0 hp)))).trans (hc j hj)⟩⟩
      · exact ⟨0, fun h => absurd h hp⟩
    obtain ⟨gA, hA2⟩ := hA2
    have HA := Lib.hid hA2
    clear hA2
    have hwp := wd_pos d
    have hmm : m ≤ 100000 := by have := HEM.out; omega
    have hbox := Blk.new W 25 #[.int .i64 k, .int .i64 d, .slice A n c, .slice K m c']
    have hn1 : n ≤ 1000000000 := by have := HEN.out; have hw := wd_cases d h0 h1; rcases hw with ⟨_, h⟩ | ⟨_, h⟩ | ⟨_, h⟩ | ⟨_, h⟩ <;> rw [h] at hn' <;> omega
    have hpl := Places_any d h0 h1 gA n c A ns (W.alloc (.cells #[.int .i64 k, .int .i64 d, .slice A n c, .slice K m c'] 25)) (fun hp => by
      obtain ⟨e, hc⟩ := HA.out hp
      exact ⟨e, fun j hj => by rw [World.cell?_alloc_lt _ _ _ (cell_lt (hc j hj))]; exact hc j hj⟩) hn1
    have hBT : jbodyT hi lo (.mk k d ns ks) = listJ ((ptsN d ns (n / wd d)).map (coordJ hi lo d) ++ ks.map (jbodyT hi lo)) := by rw [jbodyT_mk]; unfold partsJ; rw [HEN.out]
    have hpb : partsJ hi lo d ns ks = (ptsN d ns (n / wd d)).map (coordJ hi lo d) ++ ks.map (jbodyT hi lo) := by unfold partsJ; rw [HEN.out]
    have hpsm := partsJ_sum hi lo d ns ks HB.out (fun t ht => jbodyT_len hi lo (numt_of HS.out HEC.out HEM.out t ht))
    rw [HEN.out] at hpsm
    have hpn := np_mk k d ns ks
    rw [HEN.out] at hpn hn'
    have hpln := ptsN_length d ns (n / wd d)
    have hplb := fun i => ptN_lt' d ns i HB.out
    have hplc : ∀ q, q < n / wd d → (ptsN d ns (n / wd d))[q]? = some (ptN d ns q) := fun q hq => by unfold ptsN; simp [hq]
    generalize hr : n / wd d = r at *
    generalize jbodyT hi lo (.mk k d ns ks) = BT at *
    generalize hPS : ptsN d ns r = ps at *
    have HBT := Lib.hid hBT
    have HPN := Lib.hid hpn
    have HPSM := Lib.hid hpsm
    have HPB := Lib.hid hpb
    have HPLN := Lib.hid hpln
    have HPLB := Lib.hid hplb
    have HPLC := Lib.hid hplc
    have HPL := Lib.hid hpl
    have HBOX := Lib.hid hbox
    clear hBT hpn hpsm hpb hpln hplb hplc hpl hbox hr hPS
    obtain ⟨i0, hi0, hz0, hz1, hz2⟩ := info_parts info_str
    have ek1 : (k == 1) = false := by rw [beq_eq_false_iff_ne]; exact hk1
    clear hk1
    go_enter Tryz.func40, Tryz.ntmps40
    go_wp2_with fail
    refine HPL.out.mono ?_
    rintro e w1 ⟨v1, rfl, k1⟩
    have hw1 := k1.below0
    have hx1 := HBOX.out.below hw1 (by simp)
    have hb1 : Below W.heap.size W w1 := ((Below.refl W.heap.size W).alloc (Nat.le_refl _) _).trans (hw1.mono (by simp))
    have hs1 : W.heap.size + 1 ≤ w1.heap.size := by have := hw1.size; simpa using this
    obtain ⟨A1, c1, rfl, hv1⟩ := own_shp k1.own
    have hpa : 0 < r → ∃ g, A1 = some ⟨g, 0, none⟩ ∧ PlAt w1 g ps := fun h => by
      obtain ⟨g, e, _⟩ := hv1 h
      exact ⟨g, e, plAt_of_own k1.own e⟩
    have HPA := Lib.hid hpa
    have X1 := Lib.hid hx1
    have HB1 := Lib.hid hb1
    clear k1 hw1 hx1 hb1 hv1 hpa
    go_wp2_with fail
    go_loopw [5, 34] (fun u i wr => ∃ q : Nat, q ≤ r ∧ i = .int .i64 q ∧ Rw 9 w1 wr none u (strsV ((ps.map (coordJ hi lo d)).take q))) (fun _ i _ => r - (intOf i).toNat)
    case atStart => exact ⟨0, Nat.zero_le _, rfl, Rw.nil _ _⟩
    case round =>
      obtain ⟨q, hq, rfl, hrw⟩ := hrel
      have hlq : (strsV ((ps.map (coordJ hi lo d)).take q)).length ≤ q := by rw [strsV_length]; exact List.length_take_le _ _
      by_cases hlt : q < r
      · obtain ⟨g, rfl, hpg⟩ := HPA.out (by omega)
        have hpq := HPLC.out q hlt
        obtain ⟨c0', c1', c2', c3'⟩ := hpg.below hrw.below0 q _ hpq
        have hts : (ps.map (coordJ hi lo d)).take (q + 1) = (ps.map (coordJ hi lo d)).take q ++ [coordJ hi lo d (ptN d ns q)] := by
          rw [List.take_add_one, List.getElem?_map, hpq]
          rfl
        have hpb := HPLB.out q
        have hbx := (X1.out.below hrw.below0 X1.out.lt).alloc (.cells #[.float .f64 (ptN d ns q).1, .float .f64 (ptN d ns q).2.1, .float .f64 (ptN d ns q).2.2.1, .float .f64 (ptN d ns q).2.2.2] 88)
        generalize ptN d ns q = p at *
        obtain ⟨px, py, pz, pm⟩ := p
        have hsr : W.heap.size + 1 ≤ wr.heap.size := by have := hrw.below0.size; omega
        have r1 : ∀ o : Obj, (wr.alloc o).cell? ⟨W.heap.size, 1, none⟩ = some (.int .i64 d) := fun o => (((X1.out.below hrw.below0 X1.out.lt).alloc o).cell 1).trans rfl
        have HTS := Lib.hid hts
        have HPB := Lib.hid hpb
        generalize hxs : strsV ((ps.map (coordJ hi lo d)).take q) = xs at *
        have HXS := Lib.hid hxs
        have HRW := Lib.hid hrw
        have HTW : Hid (FtTabs (wr.alloc (.cells #[.float .f64 px, .float .f64 py, .float .f64 pz, .float .f64 pm] 88)) hi lo) := Lib.hid ((HT.out.below (HB1.out.trans (hrw.below0.mono (by omega)))).below ((Below.refl _ _).alloc (Nat.le_refl _) _))
        clear hts hpb hxs hrw hbx hpg hpq
        go_wp2_with fail
        refine (jsonPlace_any px py pz pm d hi lo _ HTW.out HPB.out.1 HPB.out.2.1 HPB.out.2.2.1).mono ?_
        rintro e w2 ⟨rfl, h2⟩
        have h3 : Rw 9 w1 w2 none u5 xs := (HRW.out.alloc _).below h2
        clear h2
        generalize hTT : strOfNums (coordJ hi lo d (px, py, pz, pm)) = T at *
        have HTT := Lib.hid hTT
        clear hTT c0' c1' c2' c3'
        go_wp2_with (at_builtin; refine wpList_rw_append rfl _ _ _ rfl Tryz.underlying36 hi0 hz0 rfl hz1 hz2 rfl rfl (by assumption) (by first | rfl | simp) rfl (by simp [Value.oneCell']) (by first | omega | (simp only [len_appV, List.length_cons, List.length_nil]; omega)) (by first | omega | (simp only [len_appV, List.length_cons, List.length_nil]; omega)) ?_; intro v1 W1 h2)
        go_roundw
        case rel =>
          refine ⟨q + 1, by omega, by go_num, ?_⟩
          rw [HTS.out, strsV_append, HXS.out]
          have e : strsV [coordJ hi lo d (px, py, pz, pm)] = [.string T] := by rw [← HTT.out]; rfl
          rw [e]
          exact h2
        case measure => simp [intOf]; omega
      · obtain rfl : r = q := by omega
        rw [List.take_of_length_le (by rw [List.length_map, HPLN.out]; exact Nat.le_refl _)] at hrw
        have HRW := Lib.hid hrw
        have hbx := X1.out.below hrw.below0 X1.out.lt
        have X2 := Lib.hid hbx
        have r3 := hbx.cell 3
        simp at r3
        have HB2 := Lib.hid (HB1.out.trans (hrw.below0.mono (by omega)))
        have hs2 : W.heap.size + 1 ≤ wr.heap.size := by have := hrw.below0.size; omega
        clear hrw hbx
        clear hlq
        go_wp2_with fail
        go_loopw [5, 49] (fun u i wr => ∃ q : Nat, q ≤ m ∧ i = .int .i64 q ∧ Rw 9 w1 wr none u (strsV (ps.map (coordJ hi lo d) ++ (ks.map (jbodyT hi lo)).take q))) (fun _ i _ => m - (intOf i).toNat)
        case atStart => exact ⟨0, Nat.zero_le _, rfl, by rw [List.take_zero, List.append_nil]; exact HRW.out⟩
        case round =>
          obtain ⟨q, hq, rfl, hrw⟩ := hrel
          have hem := HEM.out
          have hlq : (strsV (ps.map (coordJ hi lo d) ++ (ks.map (jbodyT hi lo)).take q)).length ≤ 200000 := by
            have := List.length_take_le q (ks.map (jbodyT hi lo))
            rw [strsV_length, List.length_append, List.length_map, HPLN.out]
            omega
          by_cases hlt : q < m
          · have hkq : ks[q]? = some (ks[q]'(by rw [HEM.out]; exact hlt)) := List.getElem?_eq_getElem _
            have hcq : css[q]? = some (css[q]'(by rw [HEC.out]; exact hlt)) := List.getElem?_eq_getElem _
            have hkm : (ks[q]'(by rw [HEM.out]; exact hlt)) ∈ ks := List.getElem_mem _
            generalize (ks[q]'(by rw [HEM.out]; exact hlt)) = t at hkq hkm
            generalize (css[q]'(by rw [HEC.out]; exact hlt)) = x at hcq
            have hx := HS.out q x t hcq hkq
            have hnpt : t.np ≤ 1000000 := by have := np_mem hkm; have := HNP.out; have := HPN.out; omega
            have hbody := HI.out q x t hcq hkq (HK3.out t hkm) (HK2.out t hkm) hnpt
            obtain ⟨xk, xd, xA, xK, xn, xm, xc, xc', rfl⟩ := hx.shape
            obtain ⟨gK, rfl, hgK, hcK⟩ := HK.out (by omega)
            have hgl : gK < w0.heap.size := by
              have := flat_at HE.out hcq (j := 0) (by omega)
              exact cell_lt (hcK _ _ this)
            have hgW := HWl.out gK hgK hgl
            have hbw : Below W.heap.size W wr := HB1.out.trans (hrw.below0.mono (by omega))
            have hck : ∀ j u, css.flatten[j]? = some u → wr.cell? ⟨gK, j, none⟩ = some u := fun j u hu =>
              (World.cell?_of_block ((hbw.block gK hgW).trans (HW.out gK hgK hgl))).trans (hcK j u hu)
            obtain ⟨d0', d1', d2', d3'⟩ := kid_cells HE.out hck hcq
            have HAG : Hid (∀ b, ok b → b < w0.heap.size → (wr.alloc (.cells #[.int .i64 xk, .int .i64 xd, .slice xA xn xc, .slice xK xm xc'] 25)).heap[b]? = w0.heap[b]?) :=
              Lib.hid fun b hb hl => (Below.heap_alloc _ _ b (Nat.lt_of_lt_of_le (HWl.out b hb hl) hbw.size)).trans ((hbw.block b (HWl.out b hb hl)).trans (HW.out b hb hl))
            have HTW : Hid (FtTabs (wr.alloc (.cells #[.int .i64 xk, .int .i64 xd, .slice xA xn xc, .slice xK xm xc'] 25)) hi lo) := Lib.hid ((HT.out.below hbw).below ((Below.refl _ _).alloc (Nat.le_refl _) _))
            have hts : ps.map (coordJ hi lo d) ++ (ks.map (jbodyT hi lo)).take (q + 1) = (ps.map (coordJ hi lo d) ++ (ks.map (jbodyT hi lo)).take q) ++ [jbodyT hi lo t] := by
              rw [List.take_add_one, List.getElem?_map, hkq, List.append_assoc]
              rfl
            have hbx := X1.out.below hrw.below0 X1.out.lt
            have hsr : W.heap.size + 1 ≤ wr.heap.size := by have := hrw.below0.size; omega
            have hxk1 : (xk != 1) = true := by have := line_k (HK3.out t hkm) hx.kd.1; simpa [bne_iff_ne] using this
            have HTS := Lib.hid hts
            generalize hxs : strsV (ps.map (coordJ hi lo d) ++ (ks.map (jbodyT hi lo)).take q) = xs at *
            have HXS := Lib.hid hxs
            have HRW2 := Lib.hid hrw
            unfold JBodyAt at hbody
            clear hts hxs hrw hbx hkq hcq hkm hx hcK hck hbw hem
            have HC := Lib.hid hbody
            clear hbody
            go_wp2_with fail
            refine (HC.out _ HAG.out HTW.out).mono ?_
            rintro e w2 ⟨rfl, h2⟩
            have h3 : Rw 9 w1 w2 none u5 xs := (HRW2.out.alloc _).below h2
            clear h2
            generalize hTT : strOfNums (jbodyT hi lo t) = T at *
            have HTT := Lib.hid hTT
            clear hTT
            go_wp2_with (at_builtin; refine wpList_rw_append rfl _ _ _ rfl Tryz.underlying36 hi0 hz0 rfl hz1 hz2 rfl rfl (by assumption) (by first | rfl | simp) rfl (by simp [Value.oneCell']) (by first | omega | (simp only [len_appV, List.length_cons, List.length_nil]; omega)) (by first | omega | (simp only [len_appV, List.length_cons, List.length_nil]; omega)) ?_; intro v1 W1 h2)
            go_roundw
            case rel =>
              refine ⟨q + 1, by omega, by go_num, ?_⟩
              rw [HTS.out, strsV_append, HXS.out]
              have e : strsV [jbodyT hi lo t] = [.string T] := by rw [← HTT.out]; rfl
              rw [e]
              exact h2
            case measure => simp [intOf]; omega
          · obtain rfl : m = q := by omega
            rw [List.take_of_length_le (by rw [List.length_map, HEM.out]; exact Nat.le_refl _)] at hrw
            have hpsum := HPSM.out
            have hpb := HPB.out
            rw [hpb] at hpsum
            have hcnt : (ps.map (coordJ hi lo d) ++ ks.map (jbodyT hi lo)).length = r + m := by rw [List.length_append, List.length_map, List.length_map, HPLN.out, HEM.out]
            have hBT := HBT.out
            generalize ps.map (coordJ hi lo d) ++ ks.map (jbodyT hi lo) = PP at *
            have hjb : ∀ q, q ≤ PP.length → (joinJ PP q).length ≤ 1000000000000 := fun q hq => by
              rw [joinJ_eq]
              have h1 := joinS_sum 44 PP q hq
              have h2 := sum_take PP q
              have h3 := HNP.out
              have h4 := HPN.out
              omega
            have hpe : ∀ p ∈ PP, p.length ≤ 1000000000000 := fun p hp => by
              have h1 := sum_le_mem (fun p : List Int => p.length + 1) PP p hp
              have h3 := HNP.out
              have h4 := HPN.out
              have h5 : p.length + 1 ≤ (PP.map fun p => p.length + 1).sum := h1
              omega
            have hlist := jsonList_any hrw hjb hpe (by omega)
            rw [← hBT] at hlist
            have HLI := Lib.hid hlist
            have HFIN := Lib.hid (HB1.out.trans (hrw.below0.mono (by omega)))
            clear hrw hjb hpe hBT hpsum hpb hcnt hlist
            go_wp2_with fail
            refine HLI.out.mono ?_
            rintro e w5 ⟨rfl, rfl⟩
            go_wp2
            go_ret
            exact ⟨rfl, HFIN.out⟩

end Go.Proofs.YtpbcfgehmalppaaGreatDoor
