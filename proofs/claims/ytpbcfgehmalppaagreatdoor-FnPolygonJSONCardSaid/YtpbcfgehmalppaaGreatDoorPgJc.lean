/- The package's GeoJSON of a polygon made of plain data. -/
import Derived.Test.YtpbcfgehmalppaaGreatDoorPgJb
import Derived.Test.YtpbcfgehmalppaaGreatDoorPgW
namespace Go.Proofs.YtpbcfgehmalppaaGreatDoor
open Go.RowKit

attribute [local go_sem] run_store_float

theorem jjoin_le (hi lo : Nat → Int) {ks : List Gm} (hN : ∀ t ∈ ks, NumT t) (k : Nat) (hk : k ≤ ks.length) : (joinS 44 (ks.map (jbodyT hi lo)) k).length ≤ 9000 * ((ks.take k).map Gm.np).sum := by
  have h1 := joinS_sum 44 (ks.map (jbodyT hi lo)) k (by rw [List.length_map]; exact hk)
  refine Nat.le_trans h1 ?_
  rw [← List.map_take, List.map_map, ← sum_mul]
  refine sum_le _ _ _ (fun t ht => ?_)
  have := jbodyT_len hi lo (hN t (List.mem_of_mem_take ht))
  show (jbodyT hi lo t).length + 1 ≤ _
  omega
theorem jjoin_room (hi lo : Nat → Int) {ks : List Gm} (hN : ∀ t ∈ ks, NumT t) {k : Nat} {s : Gm} (h : ks[k]? = some s) : (joinS 44 (ks.map (jbodyT hi lo)) k).length + 9000 * s.np ≤ 9000 * (ks.map Gm.np).sum := by
  have hl := (List.getElem?_eq_some_iff.1 h).1
  have h1 := jjoin_le hi lo hN k (by omega)
  have h2 := sum_snoc_take h
  omega
theorem jjoin_all (hi lo : Nat → Int) {ks : List Gm} (hN : ∀ t ∈ ks, NumT t) (k : Nat) (hk : k ≤ ks.length) : (joinS 44 (ks.map (jbodyT hi lo)) k).length ≤ 9000 * (ks.map Gm.np).sum := by
  have h1 := jjoin_le hi lo hN k hk
  have h2 := sum_take_np ks k
  omega
theorem jbodyT_row (hi lo : Nat → Int) (K q : Int) (ks : List Gm) : jbodyT hi lo (.mk K q [] ks) = [91] ++ joinS 44 (ks.map (jbodyT hi lo)) ks.length ++ [93] := by
  rw [jbodyT_mk]
  have e : partsJ hi lo q [] ks = ks.map (jbodyT hi lo) := by unfold partsJ; simp [ptsN]
  rw [e]
  unfold listJ
  rw [joinJ_eq, List.length_map]

set_option maxHeartbeats 8000000 in
set_option maxRecDepth 100000 in
theorem seqsJson_G {ok : Nat → Prop} {A : Option Addr} {n c : Nat} {ks : List Gm} (hi lo : Nat → Int) (w : World) (hr : KRow LsG 78 2 w ok (.slice A n c) ks) (hl1 : ks.length = n) (hn : n ≤ 100000) (hOk : ∀ t ∈ ks, OkT t) (hNk : ∀ t ∈ ks, NumT t) (v : Value) (bs : List Int) (hv : Own w v bs) (ht : FtTabs w hi lo)
    (hrow : ∀ k, k < 7 → v.ownBlock ≠ some k) (hokv : ∀ b, ok b → b < w.heap.size → v.ownBlock ≠ some b) (hl : bs.length + 100 + 10000 * (ks.map Gm.np).sum ≤ 60000000000000) :
    Calls Tryz.prog 64 #[v, .slice A n c] w fun e w' => ∃ v', e = .returned v' ∧ Bf w w' v.ownBlock v' (bs ++ ([91] ++ joinS 44 (ks.map (jbodyT hi lo)) n ++ [93])) := by
  obtain ⟨i0, hi0, hz0, hz1, hz2⟩ := info_parts info_u8
  have hjr := fun (k : Nat) (s : Gm) (hk : ks[k]? = some s) => jjoin_room hi lo hNk hk
  have hja := fun (k : Nat) hk => jjoin_all hi lo hNk k hk
  have hgd : ∀ (k : Nat) (s : Gm), ks[k]? = some s → (ks.map (jbodyT hi lo)).getD k [] = jbodyT hi lo s := fun k s hk => by
    rw [List.getD_eq_getElem?_getD, List.getElem?_map, hk]; rfl
  generalize (ks.map Gm.np).sum = SP at *
  have hb1 : Below w.heap.size w w := Below.refl _ _
  have h1 : Bf w w v.ownBlock v bs := Bf.start hv
  have HB1 := Lib.hid hb1
  have HT := Lib.hid ht
  have HR := Lib.hid hr
  have HL1 := Lib.hid hl1
  have HOK := Lib.hid hOk
  have HJR := Lib.hid hjr
  have HJA := Lib.hid hja
  have HGD := Lib.hid hgd
  have HKV := Lib.hid hokv
  clear hb1 ht hr hl1 hOk hjr hja hgd hokv hNk hv
  go_enter Tryz.func64, Tryz.ntmps64
  go_wp2_with (at_builtin; refine wpList_bf_append1g rfl _ _ _ rfl Tryz.underlying30 hi0 hz0 hz1 hz2 rfl rfl (by assumption) (by first | rfl | simp) (by omega) ?_; intro v1 W1 h1)
  have H3 := Lib.hid h1
  clear h1
  go_loopw [0, 12] (fun u i wr => ∃ k : Nat, k ≤ n ∧ i = .int .i64 k ∧ Bf w wr v.ownBlock u (bs ++ [91] ++ joinS 44 (ks.map (jbodyT hi lo)) k)) (fun _ i _ => n - (intOf i).toNat)
  case atStart => exact ⟨0, Nat.zero_le _, rfl, by simpa [joinS] using H3.out⟩
  case round =>
    obtain ⟨k, hk, rfl, h1⟩ := hrel
    have hjk := HJA.out k (by rw [HL1.out]; exact hk)
    have hwz : w.heap.size ≤ wr.heap.size := h1.grown.size
    by_cases hlt : k < n
    · obtain ⟨g, x, s, rfl, hgok, hr, hxl, hcl, hrs, hgl⟩ := row_at HL1.out HR.out hlt
      replace hgl := hgl (by decide)
      have hsm : OkT s := HOK.out s (List.mem_of_getElem? hr)
      obtain ⟨rq, rA, rn, rc, rfl, -⟩ := hrs.shape
      have hgv := HKV.out g hgok hgl
      have j0 := cell_at HB1.out h1 hgl hgv (hcl 0 _ rfl)
      have j1 := cell_at HB1.out h1 hgl hgv (hcl 1 _ rfl)
      rw [Nat.add_zero] at j0
      have hstep : joinS 44 (ks.map (jbodyT hi lo)) (k + 1) = (if 0 < k then joinS 44 (ks.map (jbodyT hi lo)) k ++ [44] else joinS 44 (ks.map (jbodyT hi lo)) k) ++ (ks.map (jbodyT hi lo)).getD k [] := rfl
      rw [HGD.out k s hr] at hstep
      have hroom := HJR.out k s hr
      generalize joinS 44 (ks.map (jbodyT hi lo)) k = T at *
      have hlk : (bs ++ [91] ++ T).length + 1 ≤ 60000000000000 := by simp only [len_app, List.length_cons, List.length_nil]; omega
      have HST := Lib.hid hstep
      have HRS := Lib.hid hrs
      have HSM := Lib.hid hsm
      generalize hBT : bs ++ [91] ++ T = BT at *
      have HBT := Lib.hid hBT
      have hA : Below wr.heap.size wr (wr.alloc (.cells #[.int .u8 rq, .slice rA rn rc] 78)) := (Below.refl _ _).alloc (Nat.le_refl _) _
      have hu : u0.ownBlock ≠ some wr.heap.size := fun e => by have := (h1.own.lt _ e).2; omega
      have hlb := Blk.new wr 78 #[.int .u8 rq, .slice rA rn rc]
      have H1 := Lib.hid (h1.below hA)
      have HLB := Lib.hid hlb
      clear hstep hrs hcl hr hBT hsm h1 hA
      by_cases hk0 : 0 < k
      · have hd : decide (0 < (k : Int)) = true := decide_eq_true (by omega)
        rw [if_pos hk0] at HST
        have h1 := Bf.start H1.out.own
        go_wp2_with (at_builtin; refine wpList_bf_append1g rfl _ _ _ rfl Tryz.underlying30 hi0 hz0 hz1 hz2 rfl rfl (by assumption) (by first | rfl | simp) (by omega) ?_; intro v1 W1 h1; have hlb1 := HLB.out.bf h1 hu; have l0 := hlb1.cell 0; have l1 := hlb1.cell 1; simp at l0 l1; clear hlb1)
        have HC := Lib.hid (H1.out.trans h1)
        clear h1
        with_reducible refine (seqJson_G hi lo _ (rel_at LsG.keeps HB1.out HC.out HKV.out (fun b h => h.1) HRS.out) HSM.out _ (BT ++ [44]) (Bf.own_ HC.out) (HT.out.of_bf HC.out hrow) (place_row HC.out hrow HT.out.siz) (place_ok HC.out HKV.out (Nat.le_refl _)) (by simp only [len_app, List.length_cons, List.length_nil]; omega)).mono ?_
        rintro e w5 ⟨v5, rfl, h5⟩
        have H5 := Lib.hid (HC.out.trans h5)
        clear h5
        go_wp2
        go_roundw
        case rel =>
          refine ⟨k + 1, by omega, by go_num, ?_⟩
          rw [HST.out]
          have h5 := H5.out
          rw [← HBT.out] at h5
          simpa [List.append_assoc] using h5
        case measure => simp [intOf]; omega
      · obtain rfl : k = 0 := by omega
        have hd : decide (0 < ((0 : Nat) : Int)) = false := rfl
        rw [if_neg hk0] at HST
        have HC := H1
        go_wp2_with fail
        with_reducible refine (seqJson_G hi lo _ (rel_at LsG.keeps HB1.out HC.out HKV.out (fun b h => h.1) HRS.out) HSM.out _ BT (Bf.own_ HC.out) (HT.out.of_bf HC.out hrow) (place_row HC.out hrow HT.out.siz) (place_ok HC.out HKV.out (Nat.le_refl _)) (by omega)).mono ?_
        rintro e w5 ⟨v5, rfl, h5⟩
        have H5 := Lib.hid (HC.out.trans h5)
        clear h5
        go_wp2
        go_roundw
        case rel =>
          refine ⟨1, by omega, by go_num, ?_⟩
          rw [HST.out]
          have h5 := H5.out
          rw [← HBT.out] at h5
          simpa [List.append_assoc] using h5
        case measure => simp [intOf]; omega
    · obtain rfl : n = k := by omega
      have hlk : (bs ++ [91] ++ joinS 44 (ks.map (jbodyT hi lo)) n).length ≤ 60000000000000 := by simp only [len_app, List.length_cons, List.length_nil]; omega
      generalize hBT : bs ++ [91] ++ joinS 44 (ks.map (jbodyT hi lo)) n = BT at *
      have HBT := Lib.hid hBT
      clear hBT
      go_wp2_with (at_builtin; refine wpList_bf_append1g rfl _ _ _ rfl Tryz.underlying30 hi0 hz0 hz1 hz2 rfl rfl (by assumption) (by first | rfl | simp) (by omega) ?_; intro v1 W1 h1)
      go_ret
      refine ⟨_, rfl, ?_⟩
      rw [← HBT.out] at h1
      simpa [List.append_assoc] using h1

/-- What stands ahead of a polygon's coordinates. -/
def hdrP : List Int := strB { data := #[123, 34, 116, 121, 112, 101, 34, 58, 34, 80, 111, 108, 121, 103, 111, 110, 34, 44, 34, 99, 111, 111, 114, 100, 105, 110, 97, 116, 101, 115, 34, 58] }
def polyJ (hi lo : Nat → Int) (t : Gm) : List Int := hdrP ++ jbodyT hi lo t ++ [125]

set_option maxHeartbeats 4000000 in
set_option maxRecDepth 100000 in
theorem PgMarshal_G {ok : Nat → Prop} {A : Option Addr} {n c : Nat} {q : Int} {t : Gm} (hi lo : Nat → Int) (w : World) (h : PgG w ok [.slice A n c, .int .u8 q] t) (ho : OkT t) (ht : FtTabs w hi lo) (hl : t.np ≤ 1000000) :
    Calls Tryz.prog 38 #[.agg #[.slice A n c, .int .u8 q]] w fun e w' => ∃ v', e = .returned (.tuple #[v', .nilIface]) ∧ Bf w w' none v' (polyJ hi lo t) := by
  obtain ⟨i0, hi0, hz0, hz1, hz2⟩ := info_parts info_u8
  have hN := RowG.nums (fun _ _ _ _ h => h.nums) h
  obtain ⟨A', n', c', q', ks, rfl, e, q0, q1, hl1, hn, hr⟩ := h
  simp only [List.cons.injEq, Value.slice.injEq, Value.int.injEq, and_true, true_and] at e
  obtain ⟨⟨rfl, rfl, rfl⟩, rfl⟩ := e
  have hNk : ∀ t ∈ ks, NumT t := by cases hN with | mk _ hk => exact hk
  have hOk : ∀ t ∈ ks, OkT t := by cases ho with | mk _ _ _ _ hk => exact hk
  have hnp := np_mk 3 q [] ks
  rw [show ([] : List Nat).length / wd q = 0 from Nat.zero_div _] at hnp
  have hja := jjoin_all hi lo hNk n (by omega)
  have hb1 : Below w.heap.size w (w.alloc (.cells #[.slice A n c, .int .u8 q] 63)) := (Below.refl _ _).alloc (Nat.le_refl _) _
  have hbox := Blk.new w 63 #[.slice A n c, .int .u8 q]
  have h1 : Bf (w.alloc (.cells #[.slice A n c, .int .u8 q] 63)) (w.alloc (.cells #[.slice A n c, .int .u8 q] 63)) none (.slice none 0 0) [] := Bf.nil _
  have hg0 : w.grownBy (w.alloc (.cells #[.slice A n c, .int .u8 q] 63)) none := World.grownBy_alloc w _ none
  have hbt := jbodyT_row hi lo 3 q ks
  rw [hl1] at hbt
  unfold polyJ
  generalize jbodyT hi lo (.mk 3 q [] ks) = JT at *
  have hhl : hdrP.length = 32 := by kernel_rfl
  have HX := Lib.hid hbox
  have HB1 := Lib.hid hb1
  have HT := Lib.hid (ht.below hb1)
  have HG0 := Lib.hid hg0
  have HR := Lib.hid hr
  have HL1 := Lib.hid hl1
  have HOK := Lib.hid hOk
  have HNK := Lib.hid hNk
  have HBT := Lib.hid hbt
  clear hbox hb1 ht hg0 hr hl1 hOk hNk hN ho hbt
  go_enter Tryz.func38, Tryz.ntmps38
  go_wp2_with (at_builtin; refine wpList_bf_append_str rfl _ _ _ _ rfl Tryz.underlying30 Tryz.underlying9 hi0 hz0 hz1 hz2 rfl rfl (by assumption) (by show (0 : Nat) + 32 ≤ 140737488355328; omega) ?_; intro v1 W1 h1; have x3 := HX.out.bf h1 (by simp); have r0 := x3.cell 0; have r1 := x3.cell 1; simp at r0 r1; clear x3)
  have h2 : Bf (w.alloc (.cells #[.slice A n c, .int .u8 q] 63)) W1 none v1 hdrP := h1
  clear h1
  have H2 := Lib.hid h2
  have hrow2 : KRow LsG 93 2 W1 (fun b => ok b ∧ b < w.heap.size) (.slice A n c) ks := KRow.keep LsG.keeps HR.out (fun b _ hl => (h2.grown.block b (Nat.lt_of_lt_of_le hl HB1.out.size) (by simp)).trans (HB1.out.block b hl)) (fun b h hl => ⟨h, hl⟩)
  have HC := Lib.hid (PgCoords_G q W1 hrow2 HL1.out hn)
  have hv1 : ∀ g, v1.ownBlock = some g → w.heap.size < g ∧ g < W1.heap.size := fun g e => by
    refine ⟨?_, (h2.own.lt g e).2⟩
    rcases h2.place with hp | ⟨g', hp, hl⟩
    · rw [hp] at e; cases e
    · rw [hp] at e; injection e with e; simp at hl; omega
  clear h2 hrow2
  go_wp2_with fail
  refine HC.out.mono ?_
  rintro e w3 ⟨A3, c3, rfl, k3, b3⟩
  have h3 := H2.out.below b3
  have HS := Lib.hid (seqsJson_G hi lo w3 k3 HL1.out hn HOK.out HNK.out v1 hdrP (Bf.own_ h3) (HT.out.of_bf h3 (by simp)) (fun k hk e => by have := (hv1 k e).1; have := HT.out.siz; simp at this; omega) (fun b hb hl e => by
    have h4 := hv1 b e
    rcases hb with ⟨_, h⟩ | h <;> omega) (by rw [hhl]; omega))
  have H3 := Lib.hid h3
  clear h3 k3 b3 HC
  go_wp2_with fail
  refine HS.out.mono ?_
  rintro e w4 ⟨v4, rfl, h4⟩
  have h1 := H3.out.trans h4
  rw [← HBT.out] at h1
  have hjl : (hdrP ++ JT).length ≤ 60000000000000 := by
    rw [HBT.out, len_app, hhl]
    simp only [len_app, List.length_cons, List.length_nil]
    omega
  generalize hhj : hdrP = hj at *
  have HHJ := Lib.hid hhj
  clear hhj h4
  go_wp2_with (at_builtin; refine wpList_bf_append1g rfl _ _ _ rfl Tryz.underlying30 hi0 hz0 hz1 hz2 rfl rfl (by assumption) (by first | rfl | simp) (by omega) ?_; intro v1 W1 h1)
  go_ret2
  refine ⟨_, rfl, ?_⟩
  rw [HHJ.out]
  exact h1.pre_none HG0.out

set_option maxRecDepth 100000 in
theorem PolygonJSON_G {w0 : World} {B : Nat} {v : Value} {t : Gm} (hi lo : Nat → Int) (h : GmAt w0 B v t) (hk : t.k = 3) (hs : t.sz ≤ 100000) (W : World) (hb : Below B w0 W) (hB : B ≤ W.heap.size) (ht : FtTabs W hi lo) :
    Calls Tryz.prog 14 #[v] W fun e w' => ∃ v', e = .returned (.tuple #[v', .bool true]) ∧ Bf W w' none v' (polyJ hi lo (newT t)) := by
  have hok := (ok_newT t hs).2.2
  have hnp := np_newT t hs
  have hmk : ∀ o : Obj, Calls Tryz.prog 37 #[v] (W.alloc o) fun e w' => ∃ (A : Option Addr) (n c : Nat) (q : Int), e = .returned (.agg #[.slice A n c, .int .u8 q]) ∧ PgG w' (fun b => (W.alloc o).heap.size ≤ b) [.slice A n c, .int .u8 q] (newT t) ∧ Below (W.alloc o).heap.size (W.alloc o) w' :=
    fun o => polygon_G h hk hs (W.alloc o) (hb.alloc hB o) (by simp; omega)
  obtain ⟨k, d, A, K, n, m, c, c', rfl⟩ := h.vshape
  have hb1 : Below W.heap.size W (W.alloc (.cells #[.int .i64 k, .int .i64 d, .slice A n c, .slice K m c'] 25)) := (Below.refl _ _).alloc (Nat.le_refl _) _
  have HM := Lib.hid (hmk (.cells #[.int .i64 k, .int .i64 d, .slice A n c, .slice K m c'] 25))
  have HT := Lib.hid (ht.below hb1)
  have HB1 := Lib.hid hb1
  have HO := Lib.hid hok
  clear hmk h hb ht hb1 hok
  generalize newT t = T at *
  go_enter Tryz.func14, Tryz.ntmps14
  go_wp2_with fail
  refine HM.out.mono ?_
  rintro e w1 ⟨A1, n1, c1, q1, rfl, h1, b1⟩
  have HTX := Lib.hid (PgMarshal_G hi lo w1 h1 HO.out (HT.out.below b1) (by omega))
  have HB2 := Lib.hid (HB1.out.trans (b1.mono HB1.out.size))
  clear h1 b1
  go_wp2_with fail
  refine HTX.out.mono ?_
  rintro e w2 ⟨v2, rfl, h2⟩
  have H2 := Lib.hid h2
  clear h2
  go_wp2_with fail
  refine (json_any v2 _).mono ?_
  rintro e w3 ⟨rfl, rfl⟩
  go_wp2
  go_ret2
  exact ⟨_, rfl, H2.out.pre_none (only_of_below HB2.out none)⟩

end Go.Proofs.YtpbcfgehmalppaaGreatDoor
