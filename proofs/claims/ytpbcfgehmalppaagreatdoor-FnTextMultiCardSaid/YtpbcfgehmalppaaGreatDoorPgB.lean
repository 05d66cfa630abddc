/- spec.ForceCoordinatesType: a geometry that a call has made, under another type. -/
import Derived.Test.YtpbcfgehmalppaaGreatDoorPgA
import Derived.Test.YtpbcfgehmalppaaGreatDoorWLast
namespace Go.Proofs.YtpbcfgehmalppaaGreatDoor
open Go.RowKit Go.Proofs.YtpbcfgehmalppaaGreatDoorW.PrintLast

/-- A geometry with few places and kids, of types 0 to 3. -/
inductive OkT : Gm → Prop
  | mk {k d : Int} {ns : List Nat} {ks : List Gm} (h0 : 0 ≤ d) (h1 : d ≤ 3) (hn : ns.length / wd d ≤ 100000) (hm : ks.length ≤ 100000) (hk : ∀ t ∈ ks, OkT t) : OkT (.mk k d ns ks)

theorem plAt_of_own {w : World} {g c n : Nat} {A : Option Addr} {ps : List Pl} (h : w.ownsRow 0 88 4 (.slice A n c) n (plV ps)) (hA : A = some ⟨g, 0, none⟩) : PlAt w g ps := by
  subst hA
  intro i p hp
  have ad : ∀ g j : Nat, (⟨g, 0, none⟩ : Addr).add j = ⟨g, j, none⟩ := fun g j => by unfold Addr.add; split <;> simp_all
  have e : plV ps = (ps.map fun p => [Value.float .f64 p.1, .float .f64 p.2.1, .float .f64 p.2.2.1, .float .f64 p.2.2.2]).flatten := by simp [plV, List.flatMap]
  have hc := h.cells (g := g) rfl
  rw [e] at hc
  have hx : (ps.map fun p => [Value.float .f64 p.1, .float .f64 p.2.1, .float .f64 p.2.2.1, .float .f64 p.2.2.2])[i]? = some [Value.float .f64 p.1, .float .f64 p.2.1, .float .f64 p.2.2.1, .float .f64 p.2.2.2] := by simp [hp]
  have el : ∀ x ∈ (ps.map fun p => [Value.float .f64 p.1, .float .f64 p.2.1, .float .f64 p.2.2.1, .float .f64 p.2.2.2]), x.length = 4 := by
    intro x hx
    obtain ⟨p, _, rfl⟩ := List.mem_map.1 hx
    rfl
  have k : ∀ j, j < 4 → ∀ u, [Value.float .f64 p.1, .float .f64 p.2.1, .float .f64 p.2.2.1, .float .f64 p.2.2.2][j]? = some u → w.cell? ⟨g, i * 4 + j, none⟩ = some u := fun j hj u hu => by
    have := hc (i * 4 + j) u (by rw [flat_at el hx hj]; exact hu)
    rwa [ad] at this
  exact ⟨k 0 (by omega) _ rfl, k 1 (by omega) _ rfl, k 2 (by omega) _ rfl, k 3 (by omega) _ rfl⟩

theorem kid_cells {w : World} {g : Nat} {css : List (List Value)} {q : Nat} {a b c d : Value} (el : ∀ x ∈ css, x.length = 4) (hk : ∀ j u, css.flatten[j]? = some u → w.cell? ⟨g, j, none⟩ = some u) (hx : css[q]? = some [a, b, c, d]) :
    w.cell? ⟨g, q * 4, none⟩ = some a ∧ w.cell? ⟨g, q * 4 + 1, none⟩ = some b ∧ w.cell? ⟨g, q * 4 + 2, none⟩ = some c ∧ w.cell? ⟨g, q * 4 + 3, none⟩ = some d :=
  ⟨hk _ _ (by have := flat_at el hx (j := 0) (by omega); rw [Nat.add_zero] at this; rw [this]; rfl), hk _ _ (by rw [flat_at el hx (by omega)]; rfl), hk _ _ (by rw [flat_at el hx (by omega)]; rfl), hk _ _ (by rw [flat_at el hx (by omega)]; rfl)⟩

theorem ptN_lt (q : Int) (ns : List Nat) (i : Nat) (h : ∀ b ∈ ns, b < 18446744073709551616) : (ptN q ns i).1 < 18446744073709551616 ∧ (ptN q ns i).2.1 < 18446744073709551616 ∧ (ptN q ns i).2.2.1 < 18446744073709551616 ∧ (ptN q ns i).2.2.2 < 18446744073709551616 := by
  have k : ∀ j, ns.getD j 0 < 18446744073709551616 := fun j => by
    rw [List.getD_eq_getElem?_getD]
    rcases Nat.lt_or_ge j ns.length with hj | hj
    · rw [List.getElem?_eq_getElem hj]; exact h _ (List.getElem_mem hj)
    · rw [List.getElem?_eq_none hj]; decide
  unfold ptN
  refine ⟨k _, k _, ?_, ?_⟩
  · show (if _ then _ else _) < _
    split
    · exact k _
    · decide
  · show (if _ then _ else _) < _
    split
    · exact k _
    · decide
theorem plsNums_lt (dim q : Int) (ns : List Nat) (r : Nat) (h : ∀ b ∈ ns, b < 18446744073709551616) : ∀ b ∈ plsNums dim (ptsN q ns r), b < 18446744073709551616 := by
  intro b hb
  unfold plsNums ptsN at hb
  obtain ⟨p, hp, hb⟩ := List.mem_flatMap.1 hb
  obtain ⟨i, _, rfl⟩ := List.mem_map.1 hp
  obtain ⟨h1, h2, h3, h4⟩ := ptN_lt q ns i h
  unfold plNums at hb
  simp only [List.mem_append, List.mem_cons, List.not_mem_nil, or_false] at hb
  rcases hb with (rfl | rfl) | hb | hb
  · exact h1
  · exact h2
  · split at hb <;> simp at hb; subst hb; exact h3
  · split at hb <;> simp at hb; subst hb; exact h4

theorem info_geom : (Tryz.prog.info? 25).map (fun i => (i.zero, i.size, i.bytes)) = some (some (.agg #[.int .i64 0, .int .i64 0, .slice none 0 0, .slice none 0 0]), 4, 64) := by kernel_rfl

set_option maxHeartbeats 8000000 in
set_option maxRecDepth 100000 in
theorem Force_any (dim : Int) (d0 : 0 ≤ dim) (d1 : dim ≤ 3) {w0 : World} {ok : Nat → Prop} {cs : List Value} {t : Gm} (h : GmOn w0 ok cs t) : OkT t → ∀ W : World, (∀ b, ok b → b < w0.heap.size → W.heap[b]? = w0.heap[b]?) →
    Calls Tryz.prog 35 #[.agg cs.toArray, .int .i64 dim] W fun e w' => ∃ cs' : List Value, e = .returned (.agg cs'.toArray) ∧ GmOn w' (fun b => W.heap.size ≤ b) cs' (forceT dim t) ∧ Below W.heap.size W w' := by
  induction h with
  | @mk k d ns ks n m A K c c' css en hn hb em ec el hk hs ih =>
    intro hok W hW
    cases hok with
    | mk h0 h1 hn' hm hk2 =>
    have HW := Lib.hid hW
    have HN := Lib.hid hn
    have HK := Lib.hid hk
    have HS := Lib.hid hs
    have HI := Lib.hid ih
    have HE := Lib.hid el
    have HK2 := Lib.hid hk2
    have HEN := Lib.hid en
    have HEM := Lib.hid em
    have HEC := Lib.hid ec
    have HB := Lib.hid hb
    clear hW hn hk hs ih el hk2 em ec hb
    have hA : 0 < n → ∃ g, A = some ⟨g, 0, none⟩ ∧ ∀ j, j < n → W.cell? ⟨g, j, none⟩ = some (.float .f64 (ns.getD j 0)) := fun hp => by
      obtain ⟨g, e, hg, hc⟩ := HN.out hp
      exact ⟨g, e, fun j hj => (World.cell?_of_block (HW.out g hg (cell_lt (hc 0 hp)))).trans (hc j hj)⟩
    have hA2 : ∃ g, 0 < n → A = some ⟨g, 0, none⟩ ∧ ∀ j, j < n → W.cell? ⟨g, j, none⟩ = some (.float .f64 (ns.getD j 0)) := by
      by_cases hp : 0 < n
      · obtain ⟨g, e, hc⟩ := hA hp
        exact ⟨g, fun _ => ⟨e, hc⟩⟩
      · exact ⟨0, fun h => absurd h hp⟩
    obtain ⟨gA, hA2⟩ := hA2
    have HA := Lib.hid hA2
    clear hA hA2
    go_enter Tryz.func35, Tryz.ntmps35
    go_wp2_with fail
    refine (Places_any d h0 h1 gA n c A ns _ (fun hp => ?_) (by have := HEN.out; have hw := wd_cases d h0 h1; rcases hw with ⟨_, h⟩ | ⟨_, h⟩ | ⟨_, h⟩ | ⟨_, h⟩ <;> rw [h] at hn' <;> omega)).mono ?_
    · obtain ⟨e, hc⟩ := HA.out hp
      refine ⟨e, fun j hj => ?_⟩
      have hl := cell_lt (hc j hj)
      rw [World.cell?_alloc_lt _ _ _ (by simp; omega), World.cell?_alloc_lt _ _ _ (by simp; omega), World.cell?_alloc_lt _ _ _ (by simp; omega)]
      exact hc j hj
    rintro e w1 ⟨v1, rfl, k1⟩
    obtain ⟨A1, c1, rfl, hv1⟩ := own_shp k1.own
    have hg1 : ∃ g, 0 < n / wd d → A1 = some ⟨g, 0, none⟩ := by
      by_cases hp : 0 < n / wd d
      · obtain ⟨g, e, _⟩ := hv1 hp
        exact ⟨g, fun _ => e⟩
      · exact ⟨0, fun h => absurd h hp⟩
    obtain ⟨g1, hg1⟩ := hg1
    have hpl : PlAt w1 g1 (ptsN d ns (n / wd d)) := by
      intro i p hp
      have hi : i < n / wd d := by
        rcases Nat.lt_or_ge i (n / wd d) with h | h
        · exact h
        · rw [List.getElem?_eq_none (by rw [ptsN_length]; exact h)] at hp; cases hp
      exact plAt_of_own k1.own (hg1 (by omega)) i p hp
    have hlp := ptsN_length d ns (n / wd d)
    have hNums := Nums_any dim (ptsN d ns (n / wd d)) g1 c1 A1 (fun h => hg1 (by rw [hlp] at h; exact h)) w1 hpl (by rw [hlp]; rw [HEN.out] at hn'; omega)
    rw [hlp] at hNums
    have hNB : ∀ b ∈ plsNums dim (ptsN d ns (n / wd d)), b < 18446744073709551616 := plsNums_lt dim d ns _ HB.out
    have hlN := plsNums_len dim (ptsN d ns (n / wd d))
    rw [hlp] at hlN
    have hFT : forceT dim (.mk k d ns ks) = .mk k dim (plsNums dim (ptsN d ns (n / wd d))) (ks.map (forceT dim)) := by rw [forceT_mk, HEN.out]
    generalize plsNums dim (ptsN d ns (n / wd d)) = NS at *
    have hb1 := k1.below0
    have HNU := Lib.hid hNums
    have HNB := Lib.hid hNB
    have HFT := Lib.hid hFT
    have b0 := (((Blk.new W 25 #[.int .i64 k, .int .i64 d, .slice A n c, .slice K m c']).alloc (.cells #[.int .i64 0, .int .i64 0, .slice none 0 0, .slice none 0 0] 25)).alloc (.cells #[.int .i64 k, .int .i64 dim, .slice none 0 0, .slice none 0 0] 25)).below hb1 (by simp only [World.size_alloc]; omega)
    have b1 := ((Blk.new (W.alloc (.cells #[.int .i64 k, .int .i64 d, .slice A n c, .slice K m c'] 25)) 25 #[.int .i64 0, .int .i64 0, .slice none 0 0, .slice none 0 0]).alloc (.cells #[.int .i64 k, .int .i64 dim, .slice none 0 0, .slice none 0 0] 25)).below hb1 (by simp only [World.size_alloc]; omega)
    have b2 := (Blk.new ((W.alloc (.cells #[.int .i64 k, .int .i64 d, .slice A n c, .slice K m c'] 25)).alloc (.cells #[.int .i64 0, .int .i64 0, .slice none 0 0, .slice none 0 0] 25)) 25 #[.int .i64 k, .int .i64 dim, .slice none 0 0, .slice none 0 0]).below hb1 (by simp only [World.size_alloc]; omega)
    have hbw : Below W.heap.size W w1 := ((((Below.refl W.heap.size W).alloc (Nat.le_refl _) _).alloc (by simp) _).alloc (by simp; omega) _).trans (hb1.mono (by simp; omega))
    have hsz : W.heap.size + 3 ≤ w1.heap.size := by have := hb1.size; simpa using this
    rw [World.size_alloc, World.size_alloc] at b2
    rw [World.size_alloc] at b1
    clear hNums hNB hFT hlp hg1 hpl hv1 k1 hb1
    go_wp2_with fail
    refine HNU.out.mono ?_
    rintro e w2 ⟨v2, rfl, k2⟩
    have hb2 := k2.below0
    have c0 := b0.below hb2 (by omega)
    have c1 := b1.below hb2 (by omega)
    have c2 := b2.below hb2 (by omega)
    have hbw2 := hbw.trans (hb2.mono (by omega))
    have hsz2 : W.heap.size + 3 ≤ w2.heap.size := by have := hb2.size; omega
    have hv2 : ∀ b, v2.ownBlock = some b → W.heap.size + 3 ≤ b := fun b hb => by
      rcases k2.place with h | ⟨g, h, hl⟩
      · rw [h] at hb; cases hb
      · rw [h] at hb; injection hb with hb; omega
    have o2 := k2.own
    rw [flV_length] at o2
    obtain ⟨A2, e2, rfl, -⟩ := own_shp o2
    clear hb2 hbw hsz k2 b0 b1 b2
    have r2 := c2.cell 2
    have z2 := c2.frozen 2
    have r3 := c0.cell 3
    simp at r2 r3
    have C0 := Lib.hid c0
    have C1 := Lib.hid c1
    have C2 := Lib.hid c2
    have HBW := Lib.hid hbw2
    have HV2 := Lib.hid hv2
    have HO2 := Lib.hid o2
    clear c0 c1 c2 hbw2 hv2 o2
    go_wp2_with fail
    have hb3 := below_setCell' HBW.out (p := ⟨W.heap.size + 1 + 1, 2, none⟩) (by show W.heap.size ≤ W.heap.size + 1 + 1; omega) (.slice A2 NS.length e2)
    have c0 := C0.out.far (p := ⟨W.heap.size + 1 + 1, 2, none⟩) (by show W.heap.size ≠ W.heap.size + 1 + 1; omega) (.slice A2 NS.length e2)
    have c1' := C1.out.far (p := ⟨W.heap.size + 1 + 1, 2, none⟩) (by show W.heap.size + 1 ≠ W.heap.size + 1 + 1; omega) (.slice A2 NS.length e2)
    have c2 : Blk (w2.setCell ⟨W.heap.size + 1 + 1, 2, none⟩ (.slice A2 NS.length e2)) (W.heap.size + 1 + 1) 25 #[.int .i64 k, .int .i64 dim, .slice A2 NS.length e2, .slice none 0 0] := C2.out.set_ 2 (.slice A2 NS.length e2)
    have o3 : (w2.setCell ⟨W.heap.size + 1 + 1, 2, none⟩ (.slice A2 NS.length e2)).ownsRow 0 45 1 (.slice A2 NS.length e2) NS.length (flV NS) := own_keep HO2.out (fun b hb _ => Below.heap_setCell _ _ _ b (by have := HV2.out b hb; show b ≠ W.heap.size + 1 + 1; omega))
    have hsz3 : W.heap.size + 3 ≤ (w2.setCell ⟨W.heap.size + 1 + 1, 2, none⟩ (.slice A2 NS.length e2)).heap.size := by simpa [World.setCell] using hsz2
    generalize w2.setCell ⟨W.heap.size + 1 + 1, 2, none⟩ (.slice A2 NS.length e2) = w3 at *
    have D0 := Lib.hid c0
    have D1 := Lib.hid c1'
    have D2 := Lib.hid c2
    have HB3 := Lib.hid hb3
    have HO3 := Lib.hid o3
    clear c0 c1' c2 hb3 o3 r2 r3 z2 C0 C1 C2 HBW HO2
    generalize hNN : NS.length = N at *
    have HNN := Lib.hid hNN
    clear hNN
    go_loopw [23] (fun i wr => ∃ (q : Nat) (KV : Value), q ≤ m ∧ i = .int .i64 q ∧ Blk wr (W.heap.size + 1) 25 #[.int .i64 0, .int .i64 0, .slice none 0 0, .slice none 0 0] ∧ Blk wr (W.heap.size + 1 + 1) 25 #[.int .i64 k, .int .i64 dim, .slice A2 N e2, KV] ∧
      wr.ownsRow 0 45 1 (.slice A2 N e2) N (flV NS) ∧ KRow GmOn 25 4 wr (fun b => W.heap.size + 3 ≤ b ∧ (Value.slice A2 N e2).ownBlock ≠ some b) KV ((ks.take q).map (forceT dim)) ∧ Below W.heap.size W wr ∧ W.heap.size + 3 ≤ wr.heap.size) (fun i _ => m - (intOf i).toNat)
    case atStart => exact ⟨0, .slice none 0 0, Nat.zero_le _, rfl, D1.out, D2.out, HO3.out, KRow.nil _ _, HB3.out, hsz3⟩
    case round =>
      obtain ⟨q, KV, hq, rfl, x1, x2, o4, kr, hbr, hsr⟩ := hrel
      by_cases hlt : q < m
      · have hkq : ks[q]? = some (ks[q]'(by rw [HEM.out]; exact hlt)) := List.getElem?_eq_getElem _
        have hcq : css[q]? = some (css[q]'(by rw [HEC.out]; exact hlt)) := List.getElem?_eq_getElem _
        have hkm : (ks[q]'(by rw [HEM.out]; exact hlt)) ∈ ks := List.getElem_mem _
        generalize (ks[q]'(by rw [HEM.out]; exact hlt)) = t at hkq hkm
        generalize (css[q]'(by rw [HEC.out]; exact hlt)) = x at hcq
        have hx := HS.out q x t hcq hkq
        obtain ⟨xk, xd, xA, xK, xn, xm, xc, xc', rfl⟩ := hx.shape
        obtain ⟨gK, rfl, hgK, hcK⟩ := HK.out (by omega)
        have hgl : gK < w0.heap.size := by
          have := flat_at HE.out hcq (j := 0) (by omega)
          exact cell_lt (hcK _ _ this)
        have hgW : gK < W.heap.size := by
          have h1 := HW.out gK hgK hgl
          rcases Nat.lt_or_ge gK W.heap.size with h | h
          · exact h
          · rw [Array.getElem?_eq_none h, Array.getElem?_eq_getElem hgl] at h1; cases h1
        have hck : ∀ j u, css.flatten[j]? = some u → wr.cell? ⟨gK, j, none⟩ = some u := fun j u hu =>
          (World.cell?_of_block ((hbr.block gK hgW).trans (HW.out gK hgK hgl))).trans (hcK j u hu)
        obtain ⟨d0', d1', d2', d3'⟩ := kid_cells HE.out hck hcq
        have hcall := HI.out q _ t hcq hkq (HK2.out t hkm)
        have HC := Lib.hid hcall
        have HKQ := Lib.hid hkq
        have X1 := Lib.hid x1
        have X2 := Lib.hid x2
        have O4 := Lib.hid o4
        have KR := Lib.hid kr
        have HBR := Lib.hid hbr
        have r3 := x2.cell 3
        simp at r3
        clear hcall hkq hcq hkm hx hcK hck x1 x2 o4 kr hbr
        go_wp2_with fail
        have hwk : ∀ b, ok b → b < w0.heap.size → b < W.heap.size := fun b hb hl => by
          have h1 := HW.out b hb hl
          rcases Nat.lt_or_ge b W.heap.size with h | h
          · exact h
          · rw [Array.getElem?_eq_none h, Array.getElem?_eq_getElem hl] at h1; cases h1
        have HWK := Lib.hid hwk
        clear hwk
        obtain ⟨css2, r1, r2, r3', r4, r5⟩ := KR.out
        have hln : ((ks.take q).map (forceT dim)).length = q := by rw [List.length_map, List.length_take, HEM.out]; omega
        obtain ⟨i0, hi0, hz0, hz1, hz2⟩ := info_parts info_geom
        have hem := HEM.out
        have R1 := Lib.hid r1
        have R2 := Lib.hid r2
        have R3 := Lib.hid r3'
        have R4 := Lib.hid r4
        have R5 := Lib.hid r5
        have XA0 := Lib.hid (Blk.drew (X2.out.alloc (.cells #[.int .i64 xk, .int .i64 xd, .slice xA xn xc, .slice xK xm xc'] 25)))
        have XB0 := Lib.hid (Blk.drew (Blk.new wr 25 #[.int .i64 xk, .int .i64 xd, .slice xA xn xc, .slice xK xm xc']))
        have HAG : Hid (∀ b, ok b → b < w0.heap.size → (World.drew (wr.alloc (.cells #[.int .i64 xk, .int .i64 xd, .slice xA xn xc, .slice xK xm xc'] 25))).heap[b]? = w0.heap[b]?) :=
          Lib.hid fun b hb hl => (Below.heap_alloc _ _ b (Nat.lt_of_lt_of_le (HWK.out b hb hl) HBR.out.size)).trans ((HBR.out.block b (HWK.out b hb hl)).trans (HW.out b hb hl))
        have HW4 : Hid (∀ w4, Below (World.drew (wr.alloc (.cells #[.int .i64 xk, .int .i64 xd, .slice xA xn xc, .slice xK xm xc'] 25))).heap.size (World.drew (wr.alloc (.cells #[.int .i64 xk, .int .i64 xd, .slice xA xn xc, .slice xK xm xc'] 25))) w4 → ∀ b, b < wr.heap.size → w4.heap[b]? = wr.heap[b]?) :=
          Lib.hid fun w4 b4 b hb => (b4.block b (by show b < (wr.alloc _).heap.size; rw [World.size_alloc]; omega)).trans (Below.heap_alloc wr _ b hb)
        have HS4 : Hid (∀ {w4}, Below (World.drew (wr.alloc (.cells #[.int .i64 xk, .int .i64 xd, .slice xA xn xc, .slice xK xm xc'] 25))).heap.size (World.drew (wr.alloc (.cells #[.int .i64 xk, .int .i64 xd, .slice xA xn xc, .slice xK xm xc'] 25))) w4 → wr.heap.size + 1 ≤ w4.heap.size) :=
          Lib.hid fun b4 => by have := b4.size; rwa [show (World.drew (wr.alloc (.cells #[.int .i64 xk, .int .i64 xd, .slice xA xn xc, .slice xK xm xc'] 25))).heap.size = wr.heap.size + 1 from World.size_alloc _ _] at this
        have HB4 : Hid (∀ w4, Below (World.drew (wr.alloc (.cells #[.int .i64 xk, .int .i64 xd, .slice xA xn xc, .slice xK xm xc'] 25))).heap.size (World.drew (wr.alloc (.cells #[.int .i64 xk, .int .i64 xd, .slice xA xn xc, .slice xK xm xc'] 25))) w4 → Below wr.heap.size wr w4) :=
          Lib.hid fun w4 b4 => (Below.drew ((Below.refl wr.heap.size wr).alloc (Nat.le_refl _) _)).trans (b4.mono (by show wr.heap.size ≤ (wr.alloc _).heap.size; rw [World.size_alloc]; omega))
        have HSZ : Hid (wr.heap.size + 1 ≤ (World.drew (wr.alloc (.cells #[.int .i64 xk, .int .i64 xd, .slice xA xn xc, .slice xK xm xc'] 25))).heap.size) := Lib.hid (Nat.le_of_eq (World.size_alloc _ _).symm)
        have HOK : Hid (∀ b, wr.heap.size ≤ b → W.heap.size + 3 ≤ b ∧ (Value.slice A2 N e2).ownBlock ≠ some b) := Lib.hid fun b hb => ⟨by omega, fun e => by have := (O4.out.lt b e).2; omega⟩
        have KVN : Hid (some (W.heap.size + 1 + 1) ≠ KV.ownBlock) := Lib.hid fun e => by have := (R2.out _ e.symm).1; omega
        clear r1 r2 r3' r4 r5 r3 d0' d1' d2' d3'
        refine start_ (n := 9) (S := fun w' => w'.cell? ⟨W.heap.size + 1 + 1, 3, none⟩ = some KV ∧ w'.cell? ⟨wr.heap.size, 0, none⟩ = some (.int .i64 xk) ∧ w'.cell? ⟨wr.heap.size, 1, none⟩ = some (.int .i64 xd) ∧ w'.cell? ⟨wr.heap.size, 2, none⟩ = some (.slice xA xn xc) ∧ w'.cell? ⟨wr.heap.size, 3, none⟩ = some (.slice xK xm xc')) (ds := [6, 8]) #[false, false, false, false, false, false, false, false, false] (by kernel_rfl) rfl rfl ⟨(XA0.out.cell 3).trans rfl, (XB0.out.cell 0).trans rfl, (XB0.out.cell 1).trans rfl, (XB0.out.cell 2).trans rfl, (XB0.out.cell 3).trans rfl⟩ (fun hHeld => ?_)
        refine pure_ (i := 0) (N := some 27) (v := ?_) (a' := ?_) #[true, false, false, false, false, false, false, false, false] rfl rfl (by kernel_rfl) (fun _ _ _ h => h) (Or.inl ⟨by rfl, ?_⟩) ?_ ?_
        rotate_left
        · intro w'
          go_simp
          with_reducible rfl
        rotate_left
        · simp only [Act.put, List.setIfInBounds_toArray, List.set_cons_zero, List.set_cons_succ]
          rfl
        refine pure_ (i := 3) (N := some 30) (v := ?_) (a' := ?_) #[true, false, false, true, false, false, false, false, false] rfl rfl (by kernel_rfl) (fun _ _ _ h => h) (Or.inl ⟨by rfl, ?_⟩) ?_ ?_
        rotate_left
        · intro w'
          go_simp
          with_reducible rfl
        rotate_left
        · simp only [Act.put, List.setIfInBounds_toArray, List.set_cons_zero, List.set_cons_succ]
          rfl
        refine take_ (i := 1) (N := some 28) (v := ?_) (a' := ?_) #[true, true, false, true, false, false, false, false, false] rfl rfl (by kernel_rfl) (fun _ _ _ h => h) (Or.inl ⟨by rfl, ?_⟩) hHeld ?_ ?_
        rotate_left
        · rintro w' ⟨s0, s1, s2, s3, s4⟩
          go_simp
          with_reducible rfl
        rotate_left
        · simp only [Act.put, List.setIfInBounds_toArray, List.set_cons_zero, List.set_cons_succ]
          rfl
        refine take_ (i := 2) (N := some 29) (v := ?_) (a' := ?_) #[true, true, true, true, false, false, false, false, false] rfl rfl (by kernel_rfl) (fun _ _ _ h => h) (Or.inl ⟨by rfl, ?_⟩) hHeld ?_ ?_
        rotate_left
        · rintro w' ⟨s0, s1, s2, s3, s4⟩
          go_simp
          with_reducible rfl
        rotate_left
        · simp only [Act.put, List.setIfInBounds_toArray, List.set_cons_zero, List.set_cons_succ]
          rfl
        refine one_ (i := 4) (N := some 31) #[true, true, true, true, true, false, false, false, false] rfl rfl (by kernel_rfl) (by decide) (fun K hK => ?_)
        refine goes_ Tryz.func35 (by kernel_rfl) rfl #[.agg #[.int .i64 xk, .int .i64 xd, .slice xA xn xc, .slice xK xm xc'], .int .i64 dim] (by rfl) rfl rfl (by simp only [List.map_toArray, List.map_cons, List.map_nil]; rfl) ?_
        with_reducible refine (HC.out _ HAG.out).mono ?_
        rintro e w4 ⟨y, rfl, g4, b4⟩
        refine ⟨_, rfl, ?_⟩
        obtain ⟨yk, yd, yA, yK, yn, ym, yc, yc', rfl⟩ := g4.shape
        have G4 := Lib.hid g4
        have B4 := Lib.hid b4
        have XA1 := Lib.hid (XA0.out.below b4 XA0.out.lt)
        have XB1 := Lib.hid (XB0.out.below b4 XB0.out.lt)
        clear g4 b4
        refine hK.out _ _ ⟨(XA1.out.cell 3).trans rfl, (XB1.out.cell 0).trans rfl, (XB1.out.cell 1).trans rfl, (XB1.out.cell 2).trans rfl, (XB1.out.cell 3).trans rfl⟩ (fun hHeld => ?_)
        clear hK K
        refine norm_ (a' := ?_) ?_ ?_
        rotate_left
        · show Act.put _ (some 31) _ = _
          simp only [Act.put, List.setIfInBounds_toArray, List.set_cons_zero, List.set_cons_succ]
          rfl
        refine one_ (i := 5) (N := some 32) #[true, true, true, true, true, true, false, false, false] rfl rfl (by kernel_rfl) (by decide) (fun K hK => ?_)
        refine value_ (w1 := ?_) (v := ?_) (by rfl) rfl ?_ ?_
        rotate_left 2
        · go_simp
          constructor
          · rfl
          · rfl
        have XA2 := Lib.hid (XA1.out.alloc (.cells #[.int .i64 yk, .int .i64 yd, .slice yA yn yc, .slice yK ym yc'] 25))
        have XB2 := Lib.hid (XB1.out.alloc (.cells #[.int .i64 yk, .int .i64 yd, .slice yA yn yc, .slice yK ym yc'] 25))
        refine hK.out _ _ ⟨(XA2.out.cell 3).trans rfl, (XB2.out.cell 0).trans rfl, (XB2.out.cell 1).trans rfl, (XB2.out.cell 2).trans rfl, (XB2.out.cell 3).trans rfl⟩ (fun hHeld => ?_)
        clear hK K
        refine norm_ (a' := ?_) ?_ ?_
        rotate_left
        · show Act.put _ (some 32) _ = _
          simp only [Act.put, List.setIfInBounds_toArray, List.set_cons_zero, List.set_cons_succ]
          rfl
        refine last_ (i := 6) (N := some 33) #[true, true, true, true, true, true, true, false, false] rfl rfl (by kernel_rfl) (by decide) (fun K hK => ?_)
        refine step_append_any _ rfl _ _ _ rfl 0 25 i0 (.agg #[.int .i64 0, .int .i64 0, .slice none 0 0, .slice none 0 0]) 4 64 Tryz.underlying23 hi0 hz0 hz1 hz2 rfl (by decide) _ ((ks.take q).map (forceT dim)).length css2.flatten rfl (own_keep R1.out (fun b _ hb => (Below.heap_alloc w4 _ b (Nat.lt_of_lt_of_le hb (Nat.le_of_succ_le (HS4.out B4.out)))).trans (HW4.out w4 B4.out b hb))) _ _ 1 _ [.int .i64 yk, .int .i64 yd, .slice yA yn yc, .slice yK ym yc'] rfl (by exact reads_new4 rfl) (by simp [Value.oneCell']) (by simp only [maxLen]; omega) (by omega) (Nat.zero_le _) ?_
        intro v1 W1 ho hg hp
        obtain ⟨kr1, hg1⟩ := KRow.pushed GmOn.keeps R2.out R1.out R3.out R4.out R5.out (HB4.out w4 B4.out) (GmOn.keeps _ _ _ _ _ _ G4.out (fun _ _ _ => rfl) (fun b hb _ => Nat.le_of_succ_le (Nat.le_trans HSZ.out hb))) rfl HOK.out ho hg hp
        obtain ⟨Av, cv, rfl, -⟩ := own_shp ho
        have KR1 := Lib.hid kr1
        have HG1 := Lib.hid hg1
        clear ho hg hp kr1 hg1
        refine hK.out _ _ ?_
        clear hK K
        refine norm_ (a' := ?_) ?_ ?_
        rotate_left
        · show Act.put _ (some 33) _ = _
          simp only [Act.put, List.setIfInBounds_toArray, List.set_cons_zero, List.set_cons_succ]
          rfl
        refine pure_ (i := 7) (N := some 34) (v := ?_) (a' := ?_) #[true, true, true, true, true, true, true, true, false] rfl rfl (by kernel_rfl) (fun _ _ _ h => h) (Or.inl ⟨by rfl, ?_⟩) ?_ ?_
        rotate_left
        · intro w'
          go_simp
          with_reducible rfl
        rotate_left
        · simp only [Act.put, List.setIfInBounds_toArray, List.set_cons_zero, List.set_cons_succ]
          rfl
        refine last_ (i := 8) (N := none) #[true, true, true, true, true, true, true, true, true] rfl rfl (by kernel_rfl) (by decide) (fun K hK => ?_)
        have z3 : W1.frozen? ⟨W.heap.size + 1 + 1, 3, none⟩ = false := (X2.out.grown HG1.out KVN.out).frozen 3
        have z4 : W1.cell? ⟨W.heap.size + 1 + 1, 3, none⟩ = some KV := ((X2.out.grown HG1.out KVN.out).cell 3).trans rfl
        refine skip_ (w1 := ?_) (by rfl) rfl ?_ ?_
        rotate_left
        · go_simp
          rfl
        refine hK.out _ _ ?_
        clear hK K
        refine done_ (by kernel_rfl) ?_
        go_wp2
        go_roundw
        case rel =>
          have hkq2 := List.take_add_one (i := q) (l := ks)
          rw [HKQ.out, Option.toList_some] at hkq2
          have hkr : ∀ b, KV.ownBlock = some b → W.heap.size + 3 ≤ b := fun b hb => (R2.out b hb).1
          have e1 := (Blk.grown X1.out HG1.out (fun e => by have := hkr _ e.symm; omega)).far (p := ⟨W.heap.size + 1 + 1, 3, none⟩) (by show W.heap.size + 1 ≠ W.heap.size + 1 + 1; omega) (.slice Av (q + 1) cv)
          have e2 := (Blk.grown X2.out HG1.out KVN.out).set_ 3 (.slice Av (q + 1) cv)
          refine ⟨q + 1, .slice Av (q + 1) cv, by omega, by go_num, e1, e2, ?_, ?_, ?_, ?_⟩
          · exact own_keep O4.out (fun b hb hl => (Below.heap_setCell W1 _ _ b (by have := HV2.out b hb; show b ≠ W.heap.size + 1 + 1; omega)).trans (HG1.out.block b hl (fun e => (R2.out b e.symm).2 hb)))
          · rw [hkq2, List.map_append]
            have k1 := KR1.out
            rw [hln] at k1
            exact KRow.keep GmOn.keeps k1 (fun b hb _ => Below.heap_setCell W1 _ _ b (by show b ≠ W.heap.size + 1 + 1; have := hb.1; omega)) (fun b hb _ => hb)
          · exact below_setCell' (below_grownBy HBR.out HBR.out.size HG1.out (fun b hb => by have := hkr b hb; omega)) (by show W.heap.size ≤ W.heap.size + 1 + 1; omega) _
          · have := HG1.out.size
            show _ ≤ (W1.setCell _ _).heap.size
            simp [World.setCell]
            omega
        case measure => simp [intOf]; omega
      · obtain rfl : m = q := by omega
        rw [List.take_of_length_le (by rw [HEM.out]; exact Nat.le_refl _)] at kr
        have hgm := GmOn.made (k := k) (d := dim) (ns := NS) (ok := fun b => W.heap.size + 3 ≤ b) HNB.out (by rw [HNN.out]; exact o4) HV2.out (kr.keep GmOn.keeps (fun _ _ _ => rfl) (fun b hb _ => hb.1))
        rw [← HFT.out] at hgm
        obtain ⟨css2, kro, -⟩ := kr
        obtain ⟨Av, cv, rfl, -⟩ := own_shp kro
        rw [List.length_map, HEM.out] at hgm
        rw [List.length_map, HEM.out] at x2
        have HGM := Lib.hid hgm
        have HBR := Lib.hid hbr
        obtain ⟨t0, t1, t2, t3⟩ := cells_four x1 (.int .i64 k) (.int .i64 dim) (.slice A2 N e2) (.slice Av m cv)
        have r0 := x2.cell 0
        have r1 := x2.cell 1
        have r2 := x2.cell 2
        have r3 := x2.cell 3
        have s0 := x1.cell 0
        have s1 := x1.cell 1
        have s2 := x1.cell 2
        have s3 := x1.cell 3
        have y0 := x1.frozen 0
        have y1 := x1.frozen 1
        have y2 := x1.frozen 2
        have y3 := x1.frozen 3
        simp at r0 r1 r2 r3 s0 s1 s2 s3
        clear hgm hbr x1 x2 o4 kro
        go_wp2
        refine bodyPost_ret (by simp [results, Tryz.results35, go_sem, t0, t1, t2, t3]; try rfl) rfl ?_
        have hs : ∀ b, W.heap.size + 3 ≤ b → ((((wr.setCell ⟨W.heap.size + 1, 0, none⟩ (.int .i64 k)).setCell ⟨W.heap.size + 1, 1, none⟩ (.int .i64 dim)).setCell ⟨W.heap.size + 1, 2, none⟩ (.slice A2 N e2)).setCell ⟨W.heap.size + 1, 3, none⟩ (.slice Av m cv)).heap[b]? = wr.heap[b]? := fun b hb => by
          rw [Below.heap_setCell _ _ _ b (by show b ≠ W.heap.size + 1; omega), Below.heap_setCell _ _ _ b (by show b ≠ W.heap.size + 1; omega), Below.heap_setCell _ _ _ b (by show b ≠ W.heap.size + 1; omega), Below.heap_setCell _ _ _ b (by show b ≠ W.heap.size + 1; omega)]
        refine ⟨[.int .i64 k, .int .i64 dim, .slice A2 N e2, .slice Av m cv], rfl, GmOn.keeps _ _ _ _ _ _ HGM.out (fun b hb _ => hs b hb) (fun b hb _ => by omega), ?_⟩
        exact below_setCell' (below_setCell' (below_setCell' (below_setCell' HBR.out (Nat.le_succ _) _) (Nat.le_succ _) _) (Nat.le_succ _) _) (Nat.le_succ _) _

end Go.Proofs.YtpbcfgehmalppaaGreatDoor
