import Derived.Test.YtpbcfgehmalppaaGreatDoorMgC
import Derived.Test.YtpbcfgehmalppaaGreatDoorMgA
import Derived.Test.YtpbcfgehmalppaaGreatDoorMgB
import Derived.Test.YtpbcfgehmalppaaGreatDoorPgTm
/- Geometries of any kind, made of plain data. -/
namespace Go.Proofs.YtpbcfgehmalppaaGreatDoor
open Go.RowKit Go.Proofs.YtpbcfgehmalppaaGreatDoorW.PrintLast

attribute [local go_sem] run_store_float

attribute [local go_sem] asPt asLs asPg asMp asMl asMy asGc

set_option maxHeartbeats 8000000 in
set_option maxRecDepth 100000 in
theorem NewGeometryCollection_G {ok : Nat → Prop} {A : Option Addr} {n c : Nat} {ts : List Gm} (W : World) (h : KRow GeoG 72 2 W ok (.slice A n c) ts) (hrl : ts.length = n) (hok : ∀ t ∈ ts, OkT t) (hn : n ≤ 100000) (hn0 : 0 < n) :
    Calls Tryz.prog 123 #[.slice A n c] W fun e w' => ∃ (A' : Option Addr) (n' c' : Nat) (q' : Int), e = .returned (.agg #[.slice A' n' c', .int .u8 q']) ∧ GcG w' (fun b => ok b ∨ W.heap.size ≤ b) [.slice A' n' c', .int .u8 q'] (.mk 0 (ctF ts) [] (ts.map (forceT (ctF ts)))) ∧ Below W.heap.size W w' := by
  have hd : ((n : Int) == 0) = false := by rw [beq_eq_false_iff_ne]; omega
  have H := Lib.hid h
  have HRL := Lib.hid hrl
  have HOK := Lib.hid hok
  clear h hrl hok
  go_enter Tryz.func123, Tryz.ntmps123
  go_wp2_with fail
  have hb3 : Below W.heap.size W (W.alloc (.cells #[.slice none 0 0, .int .u8 0] 113)) := (Below.refl _ _).alloc (Nat.le_refl _) _
  have x3 := Blk.new W 113 #[.slice none 0 0, .int .u8 0]
  have hs3 : W.heap.size + 1 ≤ (W.alloc (.cells #[.slice none 0 0, .int .u8 0] 113)).heap.size := by simp
  generalize W.alloc (.cells #[.slice none 0 0, .int .u8 0] 113) = w3 at *
  have X3 := Lib.hid x3
  have HB3 := Lib.hid hb3
  clear x3 hb3
  go_loopw [3, 13] (fun u i wr => ∃ (k : Nat), k ≤ n ∧ i = .int .i64 k ∧ u = .int .u8 (ctF (ts.take k)) ∧ 0 ≤ ctF (ts.take k) ∧ ctF (ts.take k) ≤ 3 ∧ Blk wr W.heap.size 113 #[.slice none 0 0, .int .u8 0] ∧ Below W.heap.size W wr ∧ W.heap.size + 1 ≤ wr.heap.size) (fun _ i _ => n - (intOf i).toNat)
  case atStart => exact ⟨0, Nat.zero_le _, rfl, rfl, by show (0 : Int) ≤ 3; decide, by show (3 : Int) ≤ 3; decide, X3.out, HB3.out, hs3⟩
  case round =>
    obtain ⟨k, hk, rfl, rfl, t0, t1, x0, hbr, hsr⟩ := hrel
    by_cases hlt : k < n
    · obtain ⟨g, x, s, rfl, hgok, hr, hxl, hcl, hrs, hgl⟩ := row_at HRL.out H.out hlt
      replace hgl := hgl (by decide)
      obtain ⟨rq, rT, ra, rfl, -⟩ := hrs.shape
      obtain ⟨s0, s1⟩ : 0 ≤ s.d ∧ s.d ≤ 3 := (HOK.out s (List.mem_of_getElem? hr)).dr
      have hct : ctF (ts.take (k + 1)) = dand (ctF (ts.take k)) s.d := by
        unfold ctF
        rw [List.take_add_one, hr, Option.toList_some, List.foldl_append]
        rfl
      obtain ⟨v0, v1⟩ := dand_range t0 t1 s0 s1
      have hdu := dand_u8 t0 t1 s0 s1
      have j0 := (hbr.cell (p := ⟨g, k * 2 + 0, none⟩) hgl).trans (hcl 0 _ rfl)
      have j1 := (hbr.cell (p := ⟨g, k * 2 + 1, none⟩) hgl).trans (hcl 1 _ rfl)
      rw [Nat.add_zero] at j0
      have hcall := GeoCT_G (wr.alloc (.cells #[.int .i64 rq, .iface rT (.pointer (some ⟨ra, 0, none⟩))] 72)) (GeoG.keeps _ _ _ (fun b => b < W.heap.size) _ _ hrs (fun b _ hl => (Below.heap_alloc wr _ b (by omega)).trans (hbr.block b hl)) (fun b _ hl => hl))
      generalize ctF (ts.take k) = ct at *
      have HCT := Lib.hid hct
      have HDU := Lib.hid hdu
      have HBR := Lib.hid hbr
      have X0 := Lib.hid x0
      have HCALL := Lib.hid hcall
      clear hct hdu hbr x0 hr hcl hcall hrs
      generalize s.d = sq at *
      go_wp2_with fail
      refine HCALL.out.mono ?_
      rintro e w5 ⟨rfl, h5⟩
      have hb5 : Below wr.heap.size wr w5 := ((Below.refl _ _).alloc (Nat.le_refl _) _).trans (h5.mono (by simp))
      have HB5 := Lib.hid hb5
      clear h5 hb5
      go_wp2
      go_roundw
      case rel =>
        refine ⟨k + 1, by omega, by go_num, by rw [HCT.out, ← HDU.out], by rw [HCT.out]; exact v0, by rw [HCT.out]; exact v1, X0.out.below HB5.out X0.out.lt, HBR.out.trans (HB5.out.mono HBR.out.size), by have := HB5.out.size; omega⟩
      case measure => simp [intOf]; omega
    · obtain rfl : n = k := by omega
      rw [List.take_of_length_le (by rw [HRL.out]; exact Nat.le_refl _)] at t0 t1
      rw [List.take_of_length_le (by rw [HRL.out]; exact Nat.le_refl _)]
      generalize hCT : ctF ts = ct at *
      have HC0 := Lib.hid hCT
      clear hCT
      have HBR := Lib.hid hbr
      have X0 := Lib.hid x0
      clear hbr x0
      obtain ⟨css, r1, r2, r3, r4, r5⟩ := H.out
      rw [HRL.out] at r1
      have hrd : Reads wr W.heap.size 2 A n css.flatten := (Reads.of_own r1).below HBR.out
      have h1c : ∀ u ∈ css.flatten, u.oneCell' = true := one_cells (R := GeoG) (fun w ok x t h => by obtain ⟨rq, rT, ra, rfl, -⟩ := h.shape; simp [Value.oneCell']) r3 r5
      obtain ⟨i0, hi0, hz0, hz1, hz2⟩ := info_parts info_geo
      have HRD := Lib.hid hrd
      have H1C := Lib.hid h1c
      have R5 := Lib.hid r5
      have R3 := Lib.hid r3
      have R4 := Lib.hid r4
      clear hrd h1c r1 r2 r3 r4 r5
      go_wp2_with (at_builtin; refine wpList_append_any _ rfl _ _ _ rfl 0 72 i0 (.agg #[.int .i64 0, .nilIface]) 2 24 Tryz.underlying111 hi0 hz0 hz1 hz2 rfl (by decide) _ 0 [] rfl (World.ownsRow_nil _ _ _ _) W.heap.size A n c css.flatten rfl HRD.out H1C.out (by simp only [maxLen]; omega) (by omega) (Nat.zero_le _) ?_; intro v1 W1 ho hg hp; obtain ⟨c1, g1, rfl, hg1, ho1, hbw, x1⟩ := copied_row ho hg hp HBR.out HBR.out.size X0.out hn0 hsr; have HO := Lib.hid ho1; have X1 := Lib.hid x1; have HBW := Lib.hid hbw; clear ho hg hp hbw x1 ho1)
      have hmid : MidG GeoG 2 W1 (fun b => ((ok b ∧ b < W.heap.size) ∨ W.heap.size + 1 ≤ b) ∧ b ≠ g1) ct ts 0 css :=
        ⟨R3.out, R4.out, fun i x s hx hs => by
          rw [if_neg (by omega)]
          exact GeoG.keeps _ _ _ _ _ _ (R5.out i x s hx hs) (fun b _ hl => HBW.out.block b hl) (fun b hb hl => ⟨.inl ⟨hb.1, hl⟩, by omega⟩)⟩
      have HMID := Lib.hid hmid
      have hsz1 : g1 < W1.heap.size := (HO.out.lt g1 rfl).2
      clear hmid
      go_loopw [26] (fun i wr => ∃ (k : Nat) (cs : List (List Value)), k ≤ n ∧ i = .int .i64 k ∧ Blk wr W.heap.size 113 #[.slice none 0 0, .int .u8 0] ∧ wr.ownsRow 0 72 2 (.slice (some ⟨g1, 0, none⟩) n c1) n cs.flatten ∧ MidG GeoG 2 wr (fun b => ((ok b ∧ b < W.heap.size) ∨ W.heap.size + 1 ≤ b) ∧ b ≠ g1) ct ts k cs ∧ Below W.heap.size W wr ∧ g1 < wr.heap.size) (fun i _ => n - (intOf i).toNat)
      case atStart => exact ⟨0, css, Nat.zero_le _, rfl, X1.out, HO.out, HMID.out, HBW.out, hsz1⟩
      case round =>
        obtain ⟨k, cs, hk, rfl, x0, ow, md, hbr, hsr2⟩ := hrel
        by_cases hlt : k < n
        · have hrk : ts[k]? = some (ts[k]'(by rw [HRL.out]; exact hlt)) := List.getElem?_eq_getElem _
          have hcl : k < cs.length := by rw [md.1, HRL.out]; exact hlt
          have hck : cs[k]? = some (cs[k]'hcl) := List.getElem?_eq_getElem _
          have hsm : (ts[k]'(by rw [HRL.out]; exact hlt)) ∈ ts := List.getElem_mem _
          generalize (ts[k]'(by rw [HRL.out]; exact hlt)) = s at hrk hsm
          generalize (cs[k]'hcl) = x at hck
          have hls := md.2.2 k x s hck hrk
          rw [if_neg (by omega)] at hls
          obtain ⟨rq, rT, ra, rfl, -⟩ := hls.shape
          have ad : ∀ g j : Nat, (⟨g, 0, none⟩ : Addr).add j = ⟨g, j, none⟩ := fun g j => by unfold Addr.add; split <;> simp_all
          have k0 := ow.cells (g := g1) rfl (k * 2 + 0) (.int .i64 rq) (by rw [flat_at md.2.1 hck (by omega)]; rfl)
          have k1 := ow.cells (g := g1) rfl (k * 2 + 1) (.iface rT (.pointer (some ⟨ra, 0, none⟩))) (by rw [flat_at md.2.1 hck (by omega)]; rfl)
          rw [ad] at k0 k1
          rw [Nat.add_zero] at k0
          have hcall := GeoForce_G ct t0 t1 wr hls (HOK.out s hsm)
          have HCALL := Lib.hid hcall
          have OW := Lib.hid ow
          have MD := Lib.hid md
          have X0' := Lib.hid x0
          have HBR2 := Lib.hid hbr
          have HRK := Lib.hid hrk
          clear hcall ow md x0 hbr hls hck hrk hsm
          go_wp2_with fail
          refine HCALL.out.mono ?_
          rintro e w5 ⟨yq, yT, ya, rfl, h5, b5⟩
          have o5 : w5.ownsRow 0 72 2 (.slice (some ⟨g1, 0, none⟩) n c1) n cs.flatten := own_keep OW.out (fun b _ hb => b5.block b hb)
          have y0 := own_frozen o5 (g := g1) rfl (k * 2)
          have y1 := own_frozen o5 (g := g1) rfl (k * 2 + 1)
          have q0 := (b5.cell (p := ⟨g1, k * 2, none⟩) hsr2).trans k0
          have q1 := (b5.cell (p := ⟨g1, k * 2 + 1, none⟩) hsr2).trans k1
          have O5 := Lib.hid o5
          have H5 := Lib.hid h5
          have B5 := Lib.hid b5
          clear o5 h5 b5 k0 k1
          go_wp2
          go_roundw
          case rel =>
            have hheap : ∀ b, b ≠ g1 → ((w5.setCell ⟨g1, k * 2, none⟩ (.int .i64 yq)).setCell ⟨g1, k * 2 + 1, none⟩ (.iface yT (.pointer (some ⟨ya, 0, none⟩)))).heap[b]? = w5.heap[b]? := fun b hb => by
              rw [Below.heap_setCell _ _ _ b hb, Below.heap_setCell _ _ _ b hb]
            have hfl : cs.flatten.length = n * 2 := OW.out.1
            have hs5 := B5.out.size
            refine ⟨k + 1, cs.set k [.int .i64 yq, .iface yT (.pointer (some ⟨ya, 0, none⟩))], by omega, by go_num, ((X0'.out.below B5.out X0'.out.lt).far (by show W.heap.size ≠ g1; omega) _).far (by show W.heap.size ≠ g1; omega) _, ?_, MidG.next (MidG.keep GeoG.keeps MD.out (fun b hb hl => (hheap b hb.2).trans (B5.out.block b hl)) (fun b hb _ => hb)) HRK.out rfl (GeoG.keeps _ _ _ _ _ _ H5.out (fun b hb _ => hheap b ?_) (fun b hb _ => ?_)), below_setCell' (below_setCell' (HBR2.out.trans (B5.out.mono HBR2.out.size)) (by show W.heap.size ≤ g1; omega) _) (by show W.heap.size ≤ g1; omega) _, by simp [World.setCell]; omega⟩
            · rw [flat_set2 MD.out.2.1 hcl]
              exact own_store (own_store O5.out rfl (by rw [hfl]; omega) _) rfl (by rw [List.length_set, hfl]; omega) _
            · rcases hb with h | h
              · exact h.2
              · omega
            · rcases hb with h | h
              · exact h
              · have := HBR2.out.size; exact ⟨.inr (by omega), by omega⟩
          case measure => simp [intOf]; omega
        · obtain rfl : n = k := by omega
          have c0 := x0.cell 0
          have c1' := x0.cell 1
          have z0 := x0.frozen 0
          have z1 := x0.frozen 1
          simp at c0 c1'
          have e0 : (wr.setCell ⟨W.heap.size, 0, none⟩ (.slice (some ⟨g1, 0, none⟩) n c1)).cell? ⟨W.heap.size, 0, none⟩ = some (.slice (some ⟨g1, 0, none⟩) n c1) := by simpa using (x0.set_ 0 (.slice (some ⟨g1, 0, none⟩) n c1)).cell 0
          have e1 : ((wr.setCell ⟨W.heap.size, 0, none⟩ (.slice (some ⟨g1, 0, none⟩) n c1)).setCell ⟨W.heap.size, 1, none⟩ (.int .u8 ct)).cell? ⟨W.heap.size, 1, none⟩ = some (.int .u8 ct) := by simpa using ((x0.set_ 0 (.slice (some ⟨g1, 0, none⟩) n c1)).set_ 1 (.int .u8 ct)).cell 1
          have hrow : KRow GeoG 72 2 wr (fun b => (ok b ∧ b < W.heap.size) ∨ W.heap.size + 1 ≤ b) (.slice (some ⟨g1, 0, none⟩) n c1) (ts.map (forceT ct)) :=
            MidG.row GeoG.keeps md HRL.out ow (fun b hb => hb) (.inr hg1)
          have ROW := Lib.hid hrow
          have HBR2 := Lib.hid hbr
          clear hrow hbr x0 ow md
          go_wp2
          refine bodyPost_ret (by simp [results, Tryz.results123, go_sem, e0, e1]; try rfl) rfl ?_
          rw [HC0.out]
          refine ⟨some ⟨g1, 0, none⟩, n, c1, ct, rfl, ⟨some ⟨g1, 0, none⟩, n, c1, ct, _, rfl, rfl, t0, t1, by rw [List.length_map, HRL.out], hn, KRow.keep GeoG.keeps ROW.out (fun b hb _ => ?_) (fun b hb _ => ?_)⟩, ?_⟩
          · have hne : b ≠ W.heap.size := by rcases hb with h | h <;> omega
            rw [Below.heap_setCell _ _ _ b hne, Below.heap_setCell _ _ _ b hne]
          · rcases hb with h | h
            · exact .inl h.1
            · exact .inr (by omega)
          · exact below_setCell' (below_setCell' HBR2.out (Nat.le_refl _) _) (Nat.le_refl _) _

set_option maxHeartbeats 8000000 in
set_option maxRecDepth 100000 in
theorem geometries_of {w0 : World} {B : Nat} {K : Option Addr} {m c' : Nat} {ks : List Gm} {us : Nat → Nat → Value} (em : ks.length = m) (hm : m ≤ 100000)
    (hk : ∀ i, i < m → ∃ ad, K = some ad ∧ ad.block < B ∧ ∀ j, j < 4 → w0.cell? (ad.add (i * 4 + j)) = some (us i j))
    (hs : ∀ i t, ks[i]? = some t → GmAt w0 B (.agg #[us i 0, us i 1, us i 2, us i 3]) t)
    (ih : ∀ i t, ks[i]? = some t → ∀ W : World, Below B w0 W → B ≤ W.heap.size → Calls Tryz.prog 45 #[.agg #[us i 0, us i 1, us i 2, us i 3]] W fun e w' => ∃ (q : Int) (T a : Nat), e = .returned (.agg #[.int .i64 q, .iface T (.pointer (some ⟨a, 0, none⟩))]) ∧ GeoG w' (fun b => W.heap.size ≤ b) [.int .i64 q, .iface T (.pointer (some ⟨a, 0, none⟩))] (newT t) ∧ Below W.heap.size W w')
    (W : World) (hb : Below B w0 W) (hB : B ≤ W.heap.size) :
    Calls Tryz.prog 124 #[.slice K m c'] W fun e w' => ∃ (A' : Option Addr) (c2 : Nat), e = .returned (.slice A' m c2) ∧ KRow GeoG 72 2 w' (fun b => W.heap.size ≤ b) (.slice A' m c2) (ks.map newT) ∧ Below W.heap.size W w' := by
  obtain ⟨i0, hi0, hz0, hz1, hz2⟩ := info_parts info_geo
  have hmk : ∀ w : World, (Instr.makeSlice 111 (.int .i64 (m : Int)) (.int .i64 (m : Int))).run Tryz.prog w = .ok (.slice (some ⟨w.heap.size, 0, none⟩) m m) (w.alloc (.cells (madeCells #[.int .i64 0, .nilIface] (m * 2)) 72)) := fun w => by
    have h := run_make_rowN (P := Tryz.prog) 111 72 i0 (.agg #[.int .i64 0, .nilIface]) Tryz.underlying111 hi0 hz0 .i64 .i64 m m (Nat.le_refl _) (by rw [hz2]; omega) (by omega) w
    rw [hz1] at h
    exact h
  obtain ⟨css, ho3, hf3⟩ := row_made (R := GeoG) (sz := 2) (e := 72) (w := W) (ok := fun b => W.heap.size + 1 ≤ b) (ts := ks.map newT) (n := m) (cur := madeCells #[.int .i64 0, .nilIface] (m * 2)) (by rw [List.length_map]; exact em) (size_madeCells _ _) hm
  have hb3 : Below W.heap.size W (W.alloc (.cells (madeCells #[.int .i64 0, .nilIface] (m * 2)) 72)) := (Below.refl _ _).alloc (Nat.le_refl _) _
  have hs3 : W.heap.size + 1 ≤ (W.alloc (.cells (madeCells #[.int .i64 0, .nilIface] (m * 2)) 72)).heap.size := by simp
  have HK := Lib.hid hk
  have HS := Lib.hid hs
  have HI := Lib.hid ih
  have HEM := Lib.hid em
  have HBL := Lib.hid hb
  clear hk hs ih em hb
  go_enter Tryz.func124, Tryz.ntmps124
  go_wp2_with fail
  generalize W.alloc (.cells (madeCells #[.int .i64 0, .nilIface] (m * 2)) 72) = w3 at *
  have HO3 := Lib.hid ho3
  have HF3 := Lib.hid hf3
  have HB3 := Lib.hid hb3
  clear ho3 hf3 hb3
  go_loopw [11] (fun i wr => ∃ (q : Nat) (cs : List (List Value)), q ≤ m ∧ i = .int .i64 q ∧ wr.ownsRow 0 72 2 (.slice (some ⟨W.heap.size, 0, none⟩) m m) m cs.flatten ∧ FillG GeoG 2 wr (fun b => W.heap.size + 1 ≤ b) (ks.map newT) q cs ∧ Below W.heap.size W wr ∧ W.heap.size + 1 ≤ wr.heap.size) (fun i _ => m - (intOf i).toNat)
  case atStart => exact ⟨0, css, Nat.zero_le _, rfl, HO3.out, HF3.out, HB3.out, hs3⟩
  case round =>
    obtain ⟨q, cs, hq, rfl, ow, md, hbr, hsr⟩ := hrel
    by_cases hlt : q < m
    · have hkq : ks[q]? = some (ks[q]'(by rw [HEM.out]; exact hlt)) := List.getElem?_eq_getElem _
      generalize (ks[q]'(by rw [HEM.out]; exact hlt)) = t at hkq
      obtain ⟨ad, rfl, hab, hcell⟩ := HK.out q hlt
      have hWr : Below B W wr := hbr.mono hB
      have hcc : ∀ j, j < 4 → wr.cell? (ad.add (q * 4 + j)) = some (us q j) := fun j hj => (hWr.cell (by rw [block_of_add]; exact hab)).trans ((HBL.out.cell (by rw [block_of_add]; exact hab)).trans (hcell j hj))
      obtain ⟨d0, d1, d2, d3⟩ := cells4 hcc
      have hcall := HI.out q t hkq
      obtain ⟨xk, xd, xA, xK, xn, xm, xc, xc', g0, g1, g2, g3⟩ := (HS.out q t hkq).shape
      rw [g0, g1, g2, g3] at hcall
      rw [g0] at d0
      rw [g1] at d1
      rw [g2] at d2
      rw [g3] at d3
      have hclen : q < cs.length := by rw [md.1, List.length_map, HEM.out]; exact hlt
      have hck : cs[q]? = some (cs[q]'hclen) := List.getElem?_eq_getElem _
      generalize (cs[q]'hclen) = z at hck
      obtain ⟨za, zb, rfl⟩ := list2 (md.2.1 z (List.mem_of_getElem? hck))
      have ad' : ∀ g j : Nat, (⟨g, 0, none⟩ : Addr).add j = ⟨g, j, none⟩ := fun g j => by unfold Addr.add; split <;> simp_all
      have k0 := ow.cells (g := W.heap.size) rfl (q * 2 + 0) za (by rw [flat_at md.2.1 hck (by omega)]; rfl)
      have k1 := ow.cells (g := W.heap.size) rfl (q * 2 + 1) zb (by rw [flat_at md.2.1 hck (by omega)]; rfl)
      rw [ad'] at k0 k1
      rw [Nat.add_zero] at k0
      have hrk : (ks.map newT)[q]? = some (newT t) := by rw [List.getElem?_map, hkq]; rfl
      have HC := Lib.hid (hcall (wr.alloc (.cells #[.int .i64 xk, .int .i64 xd, .slice xA xn xc, .slice xK xm xc'] 25)) ((HBL.out.trans hWr).alloc (by omega) _) (by simp; omega))
      have OW := Lib.hid ow
      have MD := Lib.hid md
      have HBR := Lib.hid hbr
      have HRK := Lib.hid hrk
      clear hcall ow md hbr hkq hck hrk hcc hcell hWr g0 g1 g2 g3 ad'
      generalize newT t = tm at *
      go_wp2_with fail
      refine HC.out.mono ?_
      rintro e w5 ⟨yq, yT, ya, rfl, h5, b5'⟩
      have b5 : Below wr.heap.size wr w5 := ((Below.refl wr.heap.size wr).alloc (Nat.le_refl _) _).trans (b5'.mono (by simp))
      have o5 : w5.ownsRow 0 72 2 (.slice (some ⟨W.heap.size, 0, none⟩) m m) m cs.flatten := own_keep OW.out (fun b _ hb => b5.block b hb)
      have y0 := own_frozen o5 (g := W.heap.size) rfl (q * 2)
      have y1 := own_frozen o5 (g := W.heap.size) rfl (q * 2 + 1)
      have q0 := (b5.cell (p := ⟨W.heap.size, q * 2, none⟩) (by show W.heap.size < _; omega)).trans k0
      have q1 := (b5.cell (p := ⟨W.heap.size, q * 2 + 1, none⟩) (by show W.heap.size < _; omega)).trans k1
      have H5 := Lib.hid (GeoG.keeps _ w5 _ (fun b => W.heap.size + 1 ≤ b) _ _ h5 (fun _ _ _ => rfl) (fun b hb _ => by simp at hb; omega))
      have O5 := Lib.hid o5
      have B5 := Lib.hid b5
      clear o5 h5 b5 b5' k0 k1 d0 d1 d2 d3
      go_wp2
      go_roundw
      case rel =>
        have hheap : ∀ b, b ≠ W.heap.size → ((w5.setCell ⟨W.heap.size, q * 2, none⟩ (.int .i64 yq)).setCell ⟨W.heap.size, q * 2 + 1, none⟩ (.iface yT (.pointer (some ⟨ya, 0, none⟩)))).heap[b]? = w5.heap[b]? := fun b hb => by
          rw [Below.heap_setCell _ _ _ b hb, Below.heap_setCell _ _ _ b hb]
        have hfl : cs.flatten.length = m * 2 := OW.out.1
        have hs5 := B5.out.size
        refine ⟨q + 1, cs.set q [.int .i64 yq, .iface yT (.pointer (some ⟨ya, 0, none⟩))], by omega, by go_num, ?_, FillG.next (FillG.keep GeoG.keeps MD.out (fun b hb hl => (hheap b (by omega)).trans (B5.out.block b hl)) (fun b hb _ => hb)) HRK.out rfl (GeoG.keeps _ _ _ _ _ _ H5.out (fun b hb _ => hheap b (by omega)) (fun b hb _ => hb)), below_setCell' (below_setCell' (HBR.out.trans (B5.out.mono HBR.out.size)) (Nat.le_refl _) _) (Nat.le_refl _) _, by simp [World.setCell]; omega⟩
        rw [flat_set2 MD.out.2.1 hclen]
        exact own_store (own_store O5.out rfl (by rw [hfl]; omega) _) rfl (by rw [List.length_set, hfl]; omega) _
      case measure => simp [intOf]; omega
    · obtain rfl : m = q := by omega
      have hrow : KRow GeoG 72 2 wr (fun b => W.heap.size ≤ b) (.slice (some ⟨W.heap.size, 0, none⟩) m m) (ks.map newT) :=
        FillG.row GeoG.keeps md (by rw [List.length_map, HEM.out]) ow (fun b hb => ⟨by omega, by omega⟩) (Nat.le_refl _)
      have ROW := Lib.hid hrow
      have HBR := Lib.hid hbr
      clear hrow hbr ow md
      go_wp2
      go_ret
      exact ⟨_, _, rfl, ROW.out, HBR.out⟩

set_option maxHeartbeats 4000000 in
set_option maxRecDepth 100000 in
theorem collection_of {w0 : World} {B : Nat} {k d : Int} {A K : Option Addr} {n m c c' : Nat} {ks : List Gm} {us : Nat → Nat → Value} (em : ks.length = m) (hsz : Gm.szs ks ≤ 100000)
    (hk : ∀ i, i < m → ∃ ad, K = some ad ∧ ad.block < B ∧ ∀ j, j < 4 → w0.cell? (ad.add (i * 4 + j)) = some (us i j))
    (hs : ∀ i t, ks[i]? = some t → GmAt w0 B (.agg #[us i 0, us i 1, us i 2, us i 3]) t)
    (ih : ∀ i t, ks[i]? = some t → ∀ W : World, Below B w0 W → B ≤ W.heap.size → Calls Tryz.prog 45 #[.agg #[us i 0, us i 1, us i 2, us i 3]] W fun e w' => ∃ (q : Int) (T a : Nat), e = .returned (.agg #[.int .i64 q, .iface T (.pointer (some ⟨a, 0, none⟩))]) ∧ GeoG w' (fun b => W.heap.size ≤ b) [.int .i64 q, .iface T (.pointer (some ⟨a, 0, none⟩))] (newT t) ∧ Below W.heap.size W w')
    (W : World) (hb : Below B w0 W) (hB : B ≤ W.heap.size) :
    Calls Tryz.prog 80 #[.agg #[.int .i64 k, .int .i64 d, .slice A n c, .slice K m c']] W fun e w' => ∃ (A' : Option Addr) (n2 c2 : Nat) (q2 : Int), e = .returned (.agg #[.slice A' n2 c2, .int .u8 q2]) ∧ GcG w' (fun b => W.heap.size ≤ b) [.slice A' n2 c2, .int .u8 q2] (partsT 0 (d % 4) (ks.map newT)) ∧ Below W.heap.size W w' := by
  have hlen := szs_len ks
  have q0 : 0 ≤ d % 4 := by omega
  have q1 : d % 4 ≤ 3 := by omega
  have hok : ∀ t ∈ ks.map newT, OkT t := fun t ht => by
    obtain ⟨u, hu, rfl⟩ := List.mem_map.1 ht
    exact (ok_newT u (by have := sz_mem hu; omega)).2.2
  generalize hT : partsT 0 (d % 4) (ks.map newT) = T
  have hmm : m ≤ 100000 := by omega
  have b0 := (Blk.new W 25 #[.int .i64 k, .int .i64 d, .slice A n c, .slice K m c']).alloc (.cells #[.slice none 0 0, .int .u8 0] 113)
  have b1 := Blk.new (W.alloc (.cells #[.int .i64 k, .int .i64 d, .slice A n c, .slice K m c'] 25)) 113 #[.slice none 0 0, .int .u8 0]
  have hbw : Below W.heap.size W ((W.alloc (.cells #[.int .i64 k, .int .i64 d, .slice A n c, .slice K m c'] 25)).alloc (.cells #[.slice none 0 0, .int .u8 0] 113)) := ((Below.refl W.heap.size W).alloc (Nat.le_refl _) _).alloc (by simp) _
  have hsz3 : ((W.alloc (.cells #[.int .i64 k, .int .i64 d, .slice A n c, .slice K m c'] 25)).alloc (.cells #[.slice none 0 0, .int .u8 0] 113)).heap.size = W.heap.size + 2 := by simp
  rw [World.size_alloc] at b1
  by_cases hm0 : m = 0
  · subst hm0
    obtain rfl : ks = [] := List.eq_nil_of_length_eq_zero em
    have HT2 : Hid (T = .mk 0 (d % 4) [] []) := Lib.hid (by rw [← hT]; rfl)
    clear hT
    have hforce := GcForce_raw (ok := fun b => W.heap.size + 2 ≤ b) (A := none) (n := 0) (c := 0) (d % 4) q0 q1 0 ((W.alloc (.cells #[.int .i64 k, .int .i64 d, .slice A n c, .slice K 0 c'] 25)).alloc (.cells #[.slice none 0 0, .int .u8 0] 113)) (KRow.nil _ _) rfl (by simp) (by omega) (by simp)
    have hdim := dimOf_any d
    generalize d % 4 = dq at *
    have X1 := Lib.hid b1
    have HBW := Lib.hid hbw
    have HSZ := Lib.hid hsz3
    have HD := Lib.hid hdim
    have HF := Lib.hid hforce
    clear b0 b1 hbw hsz3 hdim hforce hk hs ih hb hok em
    go_enter Tryz.func80, Tryz.ntmps80
    go_wp2_with fail
    refine (HD.out _).mono ?_
    rintro e w4 ⟨rfl, rfl⟩
    go_wp2_with fail
    refine HF.out.mono ?_
    rintro e w5 ⟨yA, yn, yc, yq, rfl, h5, b5⟩
    have x5 := X1.out.below b5 X1.out.lt
    have y0 := x5.frozen 0
    have y1 := x5.frozen 1
    have v0 := x5.cell 0
    have v1 := x5.cell 1
    simp at v0 v1
    have e0 : (w5.setCell ⟨W.heap.size + 1, 0, none⟩ (.slice yA yn yc)).cell? ⟨W.heap.size + 1, 0, none⟩ = some (.slice yA yn yc) := by simpa using (x5.set_ 0 (.slice yA yn yc)).cell 0
    have e1 : ((w5.setCell ⟨W.heap.size + 1, 0, none⟩ (.slice yA yn yc)).setCell ⟨W.heap.size + 1, 1, none⟩ (.int .u8 yq)).cell? ⟨W.heap.size + 1, 1, none⟩ = some (.int .u8 yq) := by simpa using ((x5.set_ 0 (.slice yA yn yc)).set_ 1 (.int .u8 yq)).cell 1
    have H5 := Lib.hid h5
    have B5 := Lib.hid b5
    clear h5 b5 x5
    go_wp2
    refine bodyPost_ret (by simp [results, Tryz.results80, go_sem, e0, e1]; try rfl) rfl ?_
    rw [HT2.out]
    have hs2 := HSZ.out
    refine ⟨yA, yn, yc, yq, rfl, GcG.keeps _ _ _ _ _ _ H5.out (fun b hb _ => ?_) (fun b hb _ => by omega), ?_⟩
    · have hne : b ≠ W.heap.size + 1 := by omega
      rw [Below.heap_setCell _ _ _ b hne, Below.heap_setCell _ _ _ b hne]
    · exact below_setCell' (below_setCell' (HBW.out.trans (B5.out.mono HBW.out.size)) (Nat.le_succ _) _) (Nat.le_succ _) _
  · have hne : ((m : Int) == 0) = false := by rw [beq_eq_false_iff_ne]; omega
    have hml : (ks.map newT).length = m := by rw [List.length_map]; exact em
    have hts : ks.map newT ≠ [] := fun e => by rw [e] at hml; simp at hml; omega
    have HT2 : Hid (T = .mk 0 (ctF (ks.map newT)) [] ((ks.map newT).map (forceT (ctF (ks.map newT))))) := Lib.hid (by rw [← hT]; unfold partsT; rw [if_neg hts, forceT_mk, row_force_nil]; rfl)
    clear hT
    have hgs := geometries_of (c' := c') em (by omega) hk hs ih ((W.alloc (.cells #[.int .i64 k, .int .i64 d, .slice A n c, .slice K m c'] 25)).alloc (.cells #[.slice none 0 0, .int .u8 0] 113)) (hb.trans (hbw.mono hB)) (by omega)
    generalize ks.map newT = ts at *
    have X0 := Lib.hid b0
    have X1 := Lib.hid b1
    have HBW := Lib.hid hbw
    have HSZ := Lib.hid hsz3
    have HG := Lib.hid hgs
    have HOK := Lib.hid hok
    have HML := Lib.hid hml
    have r1 := b0.cell 1
    have r3 := b0.cell 3
    simp at r1 r3
    clear b0 b1 hbw hsz3 hgs hk hs ih hb hok em hml hts
    go_enter Tryz.func80, Tryz.ntmps80
    go_wp2_with fail
    refine HG.out.mono ?_
    rintro e w4 ⟨A4, c4, rfl, k4, b4⟩
    have HN := Lib.hid (NewGeometryCollection_G w4 k4 HML.out HOK.out (by omega) (by omega))
    have x4 := X1.out.below b4 X1.out.lt
    have X4 := Lib.hid x4
    have HB4 := Lib.hid (HBW.out.trans (b4.mono HBW.out.size))
    have hsz4 : W.heap.size + 2 ≤ w4.heap.size := by have := b4.size; have := HSZ.out; omega
    clear k4 b4 x4
    go_wp2_with fail
    refine HN.out.mono ?_
    rintro e w5 ⟨yA, yn, yc, yq, rfl, h5, b5⟩
    have x5 := X4.out.below b5 X4.out.lt
    have y0 := x5.frozen 0
    have y1 := x5.frozen 1
    have v0 := x5.cell 0
    have v1 := x5.cell 1
    simp at v0 v1
    have e0 : (w5.setCell ⟨W.heap.size + 1, 0, none⟩ (.slice yA yn yc)).cell? ⟨W.heap.size + 1, 0, none⟩ = some (.slice yA yn yc) := by simpa using (x5.set_ 0 (.slice yA yn yc)).cell 0
    have e1 : ((w5.setCell ⟨W.heap.size + 1, 0, none⟩ (.slice yA yn yc)).setCell ⟨W.heap.size + 1, 1, none⟩ (.int .u8 yq)).cell? ⟨W.heap.size + 1, 1, none⟩ = some (.int .u8 yq) := by simpa using ((x5.set_ 0 (.slice yA yn yc)).set_ 1 (.int .u8 yq)).cell 1
    have H5 := Lib.hid h5
    have B5 := Lib.hid b5
    clear h5 b5 x5
    go_wp2
    refine bodyPost_ret (by simp [results, Tryz.results80, go_sem, e0, e1]; try rfl) rfl ?_
    rw [HT2.out]
    have hs2 := HSZ.out
    refine ⟨yA, yn, yc, yq, rfl, GcG.keeps _ _ _ _ _ _ H5.out (fun b hb _ => ?_) (fun b hb _ => by omega), ?_⟩
    · have hne : b ≠ W.heap.size + 1 := by omega
      rw [Below.heap_setCell _ _ _ b hne, Below.heap_setCell _ _ _ b hne]
    · exact below_setCell' (below_setCell' (HB4.out.trans (B5.out.mono HB4.out.size)) (Nat.le_succ _) _) (Nat.le_succ _) _

set_option maxHeartbeats 2000000 in
set_option maxRecDepth 100000 in
theorem geometry_Pt {k d : Int} {A K : Option Addr} {n m c c' : Nat} {t : Gm} (hk : k = 1) (W : World)
    (hmk : ∀ W' : World, Below W.heap.size W W' → Calls Tryz.prog 28 #[.agg #[.int .i64 k, .int .i64 d, .slice A n c, .slice K m c']] W' fun e w' => ∃ (x y z m1 : Nat) (q : Int) (f : Bool), e = .returned (.agg #[.float .f64 x, .float .f64 y, .float .f64 z, .float .f64 m1, .int .u8 q, .bool f]) ∧ PtG w' (fun b => W'.heap.size ≤ b) [.float .f64 x, .float .f64 y, .float .f64 z, .float .f64 m1, .int .u8 q, .bool f] t ∧ Below W'.heap.size W' w') :
    Calls Tryz.prog 45 #[.agg #[.int .i64 k, .int .i64 d, .slice A n c, .slice K m c']] W fun e w' => ∃ (q : Int) (T a : Nat), e = .returned (.agg #[.int .i64 q, .iface T (.pointer (some ⟨a, 0, none⟩))]) ∧ GeoG w' (fun b => W.heap.size ≤ b) [.int .i64 q, .iface T (.pointer (some ⟨a, 0, none⟩))] t ∧ Below W.heap.size W w' := by
  subst hk
  have hb2 : Below W.heap.size W ((W.alloc (.cells #[.int .i64 1, .int .i64 d, .slice A n c, .slice K m c'] 25)).alloc (.cells #[.int .i64 0, .nilIface] 72)) := ((Below.refl _ _).alloc (Nat.le_refl _) _).alloc (by simp) _
  have hx := Blk.new (W.alloc (.cells #[.int .i64 1, .int .i64 d, .slice A n c, .slice K m c'] 25)) 72 #[.int .i64 0, .nilIface]
  have hsz2 : ((W.alloc (.cells #[.int .i64 1, .int .i64 d, .slice A n c, .slice K m c'] 25)).alloc (.cells #[.int .i64 0, .nilIface] 72)).heap.size = W.heap.size + 2 := by simp
  rw [World.size_alloc] at hx
  have HM := Lib.hid (hmk _ hb2)
  have HX := Lib.hid hx
  have HB2 := Lib.hid hb2
  have HS2 := Lib.hid hsz2
  clear hb2 hx hmk hsz2
  go_enter Tryz.func45, Tryz.ntmps45
  go_wp2_with fail
  refine HM.out.mono ?_
  rintro e w2 ⟨yx, yy, yz, ym, yq, yf, rfl, h2, b2⟩
  have HB4 := Lib.hid (HB2.out.trans (b2.mono HB2.out.size))
  have X2 := Lib.hid (HX.out.below b2 HX.out.lt)
  have H2 := Lib.hid h2
  have hs2 : W.heap.size + 2 ≤ w2.heap.size := by have := b2.size; have := HS2.out; omega
  clear h2 b2
  go_wp2_with fail
  refine (AsPt yx yy yz ym yq yf w2).mono ?_
  rintro e w3 ⟨a', rfl, ha', hblk, b3⟩
  have HB5 := Lib.hid (HB4.out.trans (b3.mono HB4.out.size))
  have x3 := X2.out.below b3 X2.out.lt
  have z0 := x3.frozen 0
  have z1 := x3.frozen 1
  have y0 := x3.cell 0
  have y1 := x3.cell 1
  simp at y0 y1
  have e0 : (w3.setCell ⟨W.heap.size + 1, 0, none⟩ (.int .i64 1)).cell? ⟨W.heap.size + 1, 0, none⟩ = some (.int .i64 1) := by simpa using (x3.set_ 0 (.int .i64 1)).cell 0
  have e1 : ((w3.setCell ⟨W.heap.size + 1, 0, none⟩ (.int .i64 1)).setCell ⟨W.heap.size + 1, 1, none⟩ (.iface 116 (.pointer (some ⟨a', 0, none⟩)))).cell? ⟨W.heap.size + 1, 1, none⟩ = some (.iface 116 (.pointer (some ⟨a', 0, none⟩))) := by simpa using ((x3.set_ 0 (.int .i64 1)).set_ 1 (.iface 116 (.pointer (some ⟨a', 0, none⟩)))).cell 1
  have hgeo : GeoG w3 (fun b => W.heap.size + 2 ≤ b) [.int .i64 1, .iface 116 (.pointer (some ⟨a', 0, none⟩))] t := by
    have hr := PtG.keeps _ w3 _ (fun b => W.heap.size + 2 ≤ b) _ _ H2.out (fun b _ hl => b3.block b hl) (fun b hb _ => by have := HS2.out; omega)
    exact .leaf (.inl ⟨rfl, rfl, rfl, hr⟩) (by omega) hblk
  have HGEO := Lib.hid hgeo
  clear hgeo b3 x3 hblk
  go_wp2
  refine bodyPost_ret (by simp [results, Tryz.results45, go_sem, e0, e1]; try rfl) rfl ?_
  refine ⟨_, _, _, rfl, GeoG.keeps _ _ _ _ _ _ HGEO.out (fun b hb _ => ?_) (fun b hb _ => by omega), ?_⟩
  · have hne : b ≠ W.heap.size + 1 := by omega
    rw [Below.heap_setCell _ _ _ b hne, Below.heap_setCell _ _ _ b hne]
  · exact below_setCell' (below_setCell' HB5.out (Nat.le_succ _) _) (Nat.le_succ _) _

set_option maxHeartbeats 2000000 in
set_option maxRecDepth 100000 in
theorem geometry_Ls {k d : Int} {A K : Option Addr} {n m c c' : Nat} {t : Gm} (hk : k = 2) (W : World)
    (hmk : ∀ W' : World, Below W.heap.size W W' → Calls Tryz.prog 61 #[.agg #[.int .i64 k, .int .i64 d, .slice A n c, .slice K m c']] W' fun e w' => ∃ (q1 : Int) (A1 : Option Addr) (n1 c1 : Nat), e = .returned (.agg #[.int .u8 q1, .slice A1 n1 c1]) ∧ LsG w' (fun b => W'.heap.size ≤ b) [.int .u8 q1, .slice A1 n1 c1] t ∧ Below W'.heap.size W' w') :
    Calls Tryz.prog 45 #[.agg #[.int .i64 k, .int .i64 d, .slice A n c, .slice K m c']] W fun e w' => ∃ (q : Int) (T a : Nat), e = .returned (.agg #[.int .i64 q, .iface T (.pointer (some ⟨a, 0, none⟩))]) ∧ GeoG w' (fun b => W.heap.size ≤ b) [.int .i64 q, .iface T (.pointer (some ⟨a, 0, none⟩))] t ∧ Below W.heap.size W w' := by
  subst hk
  have hb2 : Below W.heap.size W ((W.alloc (.cells #[.int .i64 2, .int .i64 d, .slice A n c, .slice K m c'] 25)).alloc (.cells #[.int .i64 0, .nilIface] 72)) := ((Below.refl _ _).alloc (Nat.le_refl _) _).alloc (by simp) _
  have hx := Blk.new (W.alloc (.cells #[.int .i64 2, .int .i64 d, .slice A n c, .slice K m c'] 25)) 72 #[.int .i64 0, .nilIface]
  have hsz2 : ((W.alloc (.cells #[.int .i64 2, .int .i64 d, .slice A n c, .slice K m c'] 25)).alloc (.cells #[.int .i64 0, .nilIface] 72)).heap.size = W.heap.size + 2 := by simp
  rw [World.size_alloc] at hx
  have HM := Lib.hid (hmk _ hb2)
  have HX := Lib.hid hx
  have HB2 := Lib.hid hb2
  have HS2 := Lib.hid hsz2
  clear hb2 hx hmk hsz2
  go_enter Tryz.func45, Tryz.ntmps45
  go_wp2_with fail
  refine HM.out.mono ?_
  rintro e w2 ⟨yq, yA, yn, yc, rfl, h2, b2⟩
  have HB4 := Lib.hid (HB2.out.trans (b2.mono HB2.out.size))
  have X2 := Lib.hid (HX.out.below b2 HX.out.lt)
  have H2 := Lib.hid h2
  have hs2 : W.heap.size + 2 ≤ w2.heap.size := by have := b2.size; have := HS2.out; omega
  clear h2 b2
  go_wp2_with fail
  refine (AsLs yq yA yn yc w2).mono ?_
  rintro e w3 ⟨a', rfl, ha', hblk, b3⟩
  have HB5 := Lib.hid (HB4.out.trans (b3.mono HB4.out.size))
  have x3 := X2.out.below b3 X2.out.lt
  have z0 := x3.frozen 0
  have z1 := x3.frozen 1
  have y0 := x3.cell 0
  have y1 := x3.cell 1
  simp at y0 y1
  have e0 : (w3.setCell ⟨W.heap.size + 1, 0, none⟩ (.int .i64 2)).cell? ⟨W.heap.size + 1, 0, none⟩ = some (.int .i64 2) := by simpa using (x3.set_ 0 (.int .i64 2)).cell 0
  have e1 : ((w3.setCell ⟨W.heap.size + 1, 0, none⟩ (.int .i64 2)).setCell ⟨W.heap.size + 1, 1, none⟩ (.iface 117 (.pointer (some ⟨a', 0, none⟩)))).cell? ⟨W.heap.size + 1, 1, none⟩ = some (.iface 117 (.pointer (some ⟨a', 0, none⟩))) := by simpa using ((x3.set_ 0 (.int .i64 2)).set_ 1 (.iface 117 (.pointer (some ⟨a', 0, none⟩)))).cell 1
  have hgeo : GeoG w3 (fun b => W.heap.size + 2 ≤ b) [.int .i64 2, .iface 117 (.pointer (some ⟨a', 0, none⟩))] t := by
    have hr := LsG.keeps _ w3 _ (fun b => W.heap.size + 2 ≤ b) _ _ H2.out (fun b _ hl => b3.block b hl) (fun b hb _ => by have := HS2.out; omega)
    exact .leaf (.inr (.inl ⟨rfl, rfl, rfl, hr⟩)) (by omega) hblk
  have HGEO := Lib.hid hgeo
  clear hgeo b3 x3 hblk
  go_wp2
  refine bodyPost_ret (by simp [results, Tryz.results45, go_sem, e0, e1]; try rfl) rfl ?_
  refine ⟨_, _, _, rfl, GeoG.keeps _ _ _ _ _ _ HGEO.out (fun b hb _ => ?_) (fun b hb _ => by omega), ?_⟩
  · have hne : b ≠ W.heap.size + 1 := by omega
    rw [Below.heap_setCell _ _ _ b hne, Below.heap_setCell _ _ _ b hne]
  · exact below_setCell' (below_setCell' HB5.out (Nat.le_succ _) _) (Nat.le_succ _) _

set_option maxHeartbeats 2000000 in
set_option maxRecDepth 100000 in
theorem geometry_Pg {k d : Int} {A K : Option Addr} {n m c c' : Nat} {t : Gm} (hk : k = 3) (W : World)
    (hmk : ∀ W' : World, Below W.heap.size W W' → Calls Tryz.prog 37 #[.agg #[.int .i64 k, .int .i64 d, .slice A n c, .slice K m c']] W' fun e w' => ∃ (A1 : Option Addr) (n1 c1 : Nat) (q1 : Int), e = .returned (.agg #[.slice A1 n1 c1, .int .u8 q1]) ∧ PgG w' (fun b => W'.heap.size ≤ b) [.slice A1 n1 c1, .int .u8 q1] t ∧ Below W'.heap.size W' w') :
    Calls Tryz.prog 45 #[.agg #[.int .i64 k, .int .i64 d, .slice A n c, .slice K m c']] W fun e w' => ∃ (q : Int) (T a : Nat), e = .returned (.agg #[.int .i64 q, .iface T (.pointer (some ⟨a, 0, none⟩))]) ∧ GeoG w' (fun b => W.heap.size ≤ b) [.int .i64 q, .iface T (.pointer (some ⟨a, 0, none⟩))] t ∧ Below W.heap.size W w' := by
  subst hk
  have hb2 : Below W.heap.size W ((W.alloc (.cells #[.int .i64 3, .int .i64 d, .slice A n c, .slice K m c'] 25)).alloc (.cells #[.int .i64 0, .nilIface] 72)) := ((Below.refl _ _).alloc (Nat.le_refl _) _).alloc (by simp) _
  have hx := Blk.new (W.alloc (.cells #[.int .i64 3, .int .i64 d, .slice A n c, .slice K m c'] 25)) 72 #[.int .i64 0, .nilIface]
  have hsz2 : ((W.alloc (.cells #[.int .i64 3, .int .i64 d, .slice A n c, .slice K m c'] 25)).alloc (.cells #[.int .i64 0, .nilIface] 72)).heap.size = W.heap.size + 2 := by simp
  rw [World.size_alloc] at hx
  have HM := Lib.hid (hmk _ hb2)
  have HX := Lib.hid hx
  have HB2 := Lib.hid hb2
  have HS2 := Lib.hid hsz2
  clear hb2 hx hmk hsz2
  go_enter Tryz.func45, Tryz.ntmps45
  go_wp2_with fail
  refine HM.out.mono ?_
  rintro e w2 ⟨yA, yn, yc, yq, rfl, h2, b2⟩
  have HB4 := Lib.hid (HB2.out.trans (b2.mono HB2.out.size))
  have X2 := Lib.hid (HX.out.below b2 HX.out.lt)
  have H2 := Lib.hid h2
  have hs2 : W.heap.size + 2 ≤ w2.heap.size := by have := b2.size; have := HS2.out; omega
  clear h2 b2
  go_wp2_with fail
  refine (AsPg yA yn yc yq w2).mono ?_
  rintro e w3 ⟨a', rfl, ha', hblk, b3⟩
  have HB5 := Lib.hid (HB4.out.trans (b3.mono HB4.out.size))
  have x3 := X2.out.below b3 X2.out.lt
  have z0 := x3.frozen 0
  have z1 := x3.frozen 1
  have y0 := x3.cell 0
  have y1 := x3.cell 1
  simp at y0 y1
  have e0 : (w3.setCell ⟨W.heap.size + 1, 0, none⟩ (.int .i64 3)).cell? ⟨W.heap.size + 1, 0, none⟩ = some (.int .i64 3) := by simpa using (x3.set_ 0 (.int .i64 3)).cell 0
  have e1 : ((w3.setCell ⟨W.heap.size + 1, 0, none⟩ (.int .i64 3)).setCell ⟨W.heap.size + 1, 1, none⟩ (.iface 118 (.pointer (some ⟨a', 0, none⟩)))).cell? ⟨W.heap.size + 1, 1, none⟩ = some (.iface 118 (.pointer (some ⟨a', 0, none⟩))) := by simpa using ((x3.set_ 0 (.int .i64 3)).set_ 1 (.iface 118 (.pointer (some ⟨a', 0, none⟩)))).cell 1
  have hgeo : GeoG w3 (fun b => W.heap.size + 2 ≤ b) [.int .i64 3, .iface 118 (.pointer (some ⟨a', 0, none⟩))] t := by
    have hr := PgG.keeps _ w3 _ (fun b => W.heap.size + 2 ≤ b) _ _ H2.out (fun b _ hl => b3.block b hl) (fun b hb _ => by have := HS2.out; omega)
    exact .leaf (.inr (.inr (.inl ⟨rfl, rfl, rfl, hr⟩))) (by omega) hblk
  have HGEO := Lib.hid hgeo
  clear hgeo b3 x3 hblk
  go_wp2
  refine bodyPost_ret (by simp [results, Tryz.results45, go_sem, e0, e1]; try rfl) rfl ?_
  refine ⟨_, _, _, rfl, GeoG.keeps _ _ _ _ _ _ HGEO.out (fun b hb _ => ?_) (fun b hb _ => by omega), ?_⟩
  · have hne : b ≠ W.heap.size + 1 := by omega
    rw [Below.heap_setCell _ _ _ b hne, Below.heap_setCell _ _ _ b hne]
  · exact below_setCell' (below_setCell' HB5.out (Nat.le_succ _) _) (Nat.le_succ _) _

set_option maxHeartbeats 2000000 in
set_option maxRecDepth 100000 in
theorem geometry_Mp {k d : Int} {A K : Option Addr} {n m c c' : Nat} {t : Gm} (hk : k = 4) (W : World)
    (hmk : ∀ W' : World, Below W.heap.size W W' → Calls Tryz.prog 75 #[.agg #[.int .i64 k, .int .i64 d, .slice A n c, .slice K m c']] W' fun e w' => ∃ (A1 : Option Addr) (n1 c1 : Nat) (q1 : Int), e = .returned (.agg #[.slice A1 n1 c1, .int .u8 q1]) ∧ MpG w' (fun b => W'.heap.size ≤ b) [.slice A1 n1 c1, .int .u8 q1] t ∧ Below W'.heap.size W' w') :
    Calls Tryz.prog 45 #[.agg #[.int .i64 k, .int .i64 d, .slice A n c, .slice K m c']] W fun e w' => ∃ (q : Int) (T a : Nat), e = .returned (.agg #[.int .i64 q, .iface T (.pointer (some ⟨a, 0, none⟩))]) ∧ GeoG w' (fun b => W.heap.size ≤ b) [.int .i64 q, .iface T (.pointer (some ⟨a, 0, none⟩))] t ∧ Below W.heap.size W w' := by
  subst hk
  have hb2 : Below W.heap.size W ((W.alloc (.cells #[.int .i64 4, .int .i64 d, .slice A n c, .slice K m c'] 25)).alloc (.cells #[.int .i64 0, .nilIface] 72)) := ((Below.refl _ _).alloc (Nat.le_refl _) _).alloc (by simp) _
  have hx := Blk.new (W.alloc (.cells #[.int .i64 4, .int .i64 d, .slice A n c, .slice K m c'] 25)) 72 #[.int .i64 0, .nilIface]
  have hsz2 : ((W.alloc (.cells #[.int .i64 4, .int .i64 d, .slice A n c, .slice K m c'] 25)).alloc (.cells #[.int .i64 0, .nilIface] 72)).heap.size = W.heap.size + 2 := by simp
  rw [World.size_alloc] at hx
  have HM := Lib.hid (hmk _ hb2)
  have HX := Lib.hid hx
  have HB2 := Lib.hid hb2
  have HS2 := Lib.hid hsz2
  clear hb2 hx hmk hsz2
  go_enter Tryz.func45, Tryz.ntmps45
  go_wp2_with fail
  refine HM.out.mono ?_
  rintro e w2 ⟨yA, yn, yc, yq, rfl, h2, b2⟩
  have HB4 := Lib.hid (HB2.out.trans (b2.mono HB2.out.size))
  have X2 := Lib.hid (HX.out.below b2 HX.out.lt)
  have H2 := Lib.hid h2
  have hs2 : W.heap.size + 2 ≤ w2.heap.size := by have := b2.size; have := HS2.out; omega
  clear h2 b2
  go_wp2_with fail
  refine (AsMp yA yn yc yq w2).mono ?_
  rintro e w3 ⟨a', rfl, ha', hblk, b3⟩
  have HB5 := Lib.hid (HB4.out.trans (b3.mono HB4.out.size))
  have x3 := X2.out.below b3 X2.out.lt
  have z0 := x3.frozen 0
  have z1 := x3.frozen 1
  have y0 := x3.cell 0
  have y1 := x3.cell 1
  simp at y0 y1
  have e0 : (w3.setCell ⟨W.heap.size + 1, 0, none⟩ (.int .i64 4)).cell? ⟨W.heap.size + 1, 0, none⟩ = some (.int .i64 4) := by simpa using (x3.set_ 0 (.int .i64 4)).cell 0
  have e1 : ((w3.setCell ⟨W.heap.size + 1, 0, none⟩ (.int .i64 4)).setCell ⟨W.heap.size + 1, 1, none⟩ (.iface 119 (.pointer (some ⟨a', 0, none⟩)))).cell? ⟨W.heap.size + 1, 1, none⟩ = some (.iface 119 (.pointer (some ⟨a', 0, none⟩))) := by simpa using ((x3.set_ 0 (.int .i64 4)).set_ 1 (.iface 119 (.pointer (some ⟨a', 0, none⟩)))).cell 1
  have hgeo : GeoG w3 (fun b => W.heap.size + 2 ≤ b) [.int .i64 4, .iface 119 (.pointer (some ⟨a', 0, none⟩))] t := by
    have hr := MpG.keeps _ w3 _ (fun b => W.heap.size + 2 ≤ b) _ _ H2.out (fun b _ hl => b3.block b hl) (fun b hb _ => by have := HS2.out; omega)
    exact .leaf (.inr (.inr (.inr (.inl ⟨rfl, rfl, rfl, hr⟩)))) (by omega) hblk
  have HGEO := Lib.hid hgeo
  clear hgeo b3 x3 hblk
  go_wp2
  refine bodyPost_ret (by simp [results, Tryz.results45, go_sem, e0, e1]; try rfl) rfl ?_
  refine ⟨_, _, _, rfl, GeoG.keeps _ _ _ _ _ _ HGEO.out (fun b hb _ => ?_) (fun b hb _ => by omega), ?_⟩
  · have hne : b ≠ W.heap.size + 1 := by omega
    rw [Below.heap_setCell _ _ _ b hne, Below.heap_setCell _ _ _ b hne]
  · exact below_setCell' (below_setCell' HB5.out (Nat.le_succ _) _) (Nat.le_succ _) _

set_option maxHeartbeats 2000000 in
set_option maxRecDepth 100000 in
theorem geometry_Ml {k d : Int} {A K : Option Addr} {n m c c' : Nat} {t : Gm} (hk : k = 5) (W : World)
    (hmk : ∀ W' : World, Below W.heap.size W W' → Calls Tryz.prog 41 #[.agg #[.int .i64 k, .int .i64 d, .slice A n c, .slice K m c']] W' fun e w' => ∃ (A1 : Option Addr) (n1 c1 : Nat) (q1 : Int), e = .returned (.agg #[.slice A1 n1 c1, .int .u8 q1]) ∧ MlG w' (fun b => W'.heap.size ≤ b) [.slice A1 n1 c1, .int .u8 q1] t ∧ Below W'.heap.size W' w') :
    Calls Tryz.prog 45 #[.agg #[.int .i64 k, .int .i64 d, .slice A n c, .slice K m c']] W fun e w' => ∃ (q : Int) (T a : Nat), e = .returned (.agg #[.int .i64 q, .iface T (.pointer (some ⟨a, 0, none⟩))]) ∧ GeoG w' (fun b => W.heap.size ≤ b) [.int .i64 q, .iface T (.pointer (some ⟨a, 0, none⟩))] t ∧ Below W.heap.size W w' := by
  subst hk
  have hb2 : Below W.heap.size W ((W.alloc (.cells #[.int .i64 5, .int .i64 d, .slice A n c, .slice K m c'] 25)).alloc (.cells #[.int .i64 0, .nilIface] 72)) := ((Below.refl _ _).alloc (Nat.le_refl _) _).alloc (by simp) _
  have hx := Blk.new (W.alloc (.cells #[.int .i64 5, .int .i64 d, .slice A n c, .slice K m c'] 25)) 72 #[.int .i64 0, .nilIface]
  have hsz2 : ((W.alloc (.cells #[.int .i64 5, .int .i64 d, .slice A n c, .slice K m c'] 25)).alloc (.cells #[.int .i64 0, .nilIface] 72)).heap.size = W.heap.size + 2 := by simp
  rw [World.size_alloc] at hx
  have HM := Lib.hid (hmk _ hb2)
  have HX := Lib.hid hx
  have HB2 := Lib.hid hb2
  have HS2 := Lib.hid hsz2
  clear hb2 hx hmk hsz2
  go_enter Tryz.func45, Tryz.ntmps45
  go_wp2_with fail
  refine HM.out.mono ?_
  rintro e w2 ⟨yA, yn, yc, yq, rfl, h2, b2⟩
  have HB4 := Lib.hid (HB2.out.trans (b2.mono HB2.out.size))
  have X2 := Lib.hid (HX.out.below b2 HX.out.lt)
  have H2 := Lib.hid h2
  have hs2 : W.heap.size + 2 ≤ w2.heap.size := by have := b2.size; have := HS2.out; omega
  clear h2 b2
  go_wp2_with fail
  refine (AsMl yA yn yc yq w2).mono ?_
  rintro e w3 ⟨a', rfl, ha', hblk, b3⟩
  have HB5 := Lib.hid (HB4.out.trans (b3.mono HB4.out.size))
  have x3 := X2.out.below b3 X2.out.lt
  have z0 := x3.frozen 0
  have z1 := x3.frozen 1
  have y0 := x3.cell 0
  have y1 := x3.cell 1
  simp at y0 y1
  have e0 : (w3.setCell ⟨W.heap.size + 1, 0, none⟩ (.int .i64 5)).cell? ⟨W.heap.size + 1, 0, none⟩ = some (.int .i64 5) := by simpa using (x3.set_ 0 (.int .i64 5)).cell 0
  have e1 : ((w3.setCell ⟨W.heap.size + 1, 0, none⟩ (.int .i64 5)).setCell ⟨W.heap.size + 1, 1, none⟩ (.iface 120 (.pointer (some ⟨a', 0, none⟩)))).cell? ⟨W.heap.size + 1, 1, none⟩ = some (.iface 120 (.pointer (some ⟨a', 0, none⟩))) := by simpa using ((x3.set_ 0 (.int .i64 5)).set_ 1 (.iface 120 (.pointer (some ⟨a', 0, none⟩)))).cell 1
  have hgeo : GeoG w3 (fun b => W.heap.size + 2 ≤ b) [.int .i64 5, .iface 120 (.pointer (some ⟨a', 0, none⟩))] t := by
    have hr := MlG.keeps _ w3 _ (fun b => W.heap.size + 2 ≤ b) _ _ H2.out (fun b _ hl => b3.block b hl) (fun b hb _ => by have := HS2.out; omega)
    exact .leaf (.inr (.inr (.inr (.inr (.inl ⟨rfl, rfl, rfl, hr⟩))))) (by omega) hblk
  have HGEO := Lib.hid hgeo
  clear hgeo b3 x3 hblk
  go_wp2
  refine bodyPost_ret (by simp [results, Tryz.results45, go_sem, e0, e1]; try rfl) rfl ?_
  refine ⟨_, _, _, rfl, GeoG.keeps _ _ _ _ _ _ HGEO.out (fun b hb _ => ?_) (fun b hb _ => by omega), ?_⟩
  · have hne : b ≠ W.heap.size + 1 := by omega
    rw [Below.heap_setCell _ _ _ b hne, Below.heap_setCell _ _ _ b hne]
  · exact below_setCell' (below_setCell' HB5.out (Nat.le_succ _) _) (Nat.le_succ _) _

set_option maxHeartbeats 2000000 in
set_option maxRecDepth 100000 in
theorem geometry_My {k d : Int} {A K : Option Addr} {n m c c' : Nat} {t : Gm} (hk : k = 6) (W : World)
    (hmk : ∀ W' : World, Below W.heap.size W W' → Calls Tryz.prog 78 #[.agg #[.int .i64 k, .int .i64 d, .slice A n c, .slice K m c']] W' fun e w' => ∃ (A1 : Option Addr) (n1 c1 : Nat) (q1 : Int), e = .returned (.agg #[.slice A1 n1 c1, .int .u8 q1]) ∧ MyG w' (fun b => W'.heap.size ≤ b) [.slice A1 n1 c1, .int .u8 q1] t ∧ Below W'.heap.size W' w') :
    Calls Tryz.prog 45 #[.agg #[.int .i64 k, .int .i64 d, .slice A n c, .slice K m c']] W fun e w' => ∃ (q : Int) (T a : Nat), e = .returned (.agg #[.int .i64 q, .iface T (.pointer (some ⟨a, 0, none⟩))]) ∧ GeoG w' (fun b => W.heap.size ≤ b) [.int .i64 q, .iface T (.pointer (some ⟨a, 0, none⟩))] t ∧ Below W.heap.size W w' := by
  subst hk
  have hb2 : Below W.heap.size W ((W.alloc (.cells #[.int .i64 6, .int .i64 d, .slice A n c, .slice K m c'] 25)).alloc (.cells #[.int .i64 0, .nilIface] 72)) := ((Below.refl _ _).alloc (Nat.le_refl _) _).alloc (by simp) _
  have hx := Blk.new (W.alloc (.cells #[.int .i64 6, .int .i64 d, .slice A n c, .slice K m c'] 25)) 72 #[.int .i64 0, .nilIface]
  have hsz2 : ((W.alloc (.cells #[.int .i64 6, .int .i64 d, .slice A n c, .slice K m c'] 25)).alloc (.cells #[.int .i64 0, .nilIface] 72)).heap.size = W.heap.size + 2 := by simp
  rw [World.size_alloc] at hx
  have HM := Lib.hid (hmk _ hb2)
  have HX := Lib.hid hx
  have HB2 := Lib.hid hb2
  have HS2 := Lib.hid hsz2
  clear hb2 hx hmk hsz2
  go_enter Tryz.func45, Tryz.ntmps45
  go_wp2_with fail
  refine HM.out.mono ?_
  rintro e w2 ⟨yA, yn, yc, yq, rfl, h2, b2⟩
  have HB4 := Lib.hid (HB2.out.trans (b2.mono HB2.out.size))
  have X2 := Lib.hid (HX.out.below b2 HX.out.lt)
  have H2 := Lib.hid h2
  have hs2 : W.heap.size + 2 ≤ w2.heap.size := by have := b2.size; have := HS2.out; omega
  clear h2 b2
  go_wp2_with fail
  refine (AsMy yA yn yc yq w2).mono ?_
  rintro e w3 ⟨a', rfl, ha', hblk, b3⟩
  have HB5 := Lib.hid (HB4.out.trans (b3.mono HB4.out.size))
  have x3 := X2.out.below b3 X2.out.lt
  have z0 := x3.frozen 0
  have z1 := x3.frozen 1
  have y0 := x3.cell 0
  have y1 := x3.cell 1
  simp at y0 y1
  have e0 : (w3.setCell ⟨W.heap.size + 1, 0, none⟩ (.int .i64 6)).cell? ⟨W.heap.size + 1, 0, none⟩ = some (.int .i64 6) := by simpa using (x3.set_ 0 (.int .i64 6)).cell 0
  have e1 : ((w3.setCell ⟨W.heap.size + 1, 0, none⟩ (.int .i64 6)).setCell ⟨W.heap.size + 1, 1, none⟩ (.iface 121 (.pointer (some ⟨a', 0, none⟩)))).cell? ⟨W.heap.size + 1, 1, none⟩ = some (.iface 121 (.pointer (some ⟨a', 0, none⟩))) := by simpa using ((x3.set_ 0 (.int .i64 6)).set_ 1 (.iface 121 (.pointer (some ⟨a', 0, none⟩)))).cell 1
  have hgeo : GeoG w3 (fun b => W.heap.size + 2 ≤ b) [.int .i64 6, .iface 121 (.pointer (some ⟨a', 0, none⟩))] t := by
    have hr := MyG.keeps _ w3 _ (fun b => W.heap.size + 2 ≤ b) _ _ H2.out (fun b _ hl => b3.block b hl) (fun b hb _ => by have := HS2.out; omega)
    exact .leaf (.inr (.inr (.inr (.inr (.inr (⟨rfl, rfl, rfl, hr⟩)))))) (by omega) hblk
  have HGEO := Lib.hid hgeo
  clear hgeo b3 x3 hblk
  go_wp2
  refine bodyPost_ret (by simp [results, Tryz.results45, go_sem, e0, e1]; try rfl) rfl ?_
  refine ⟨_, _, _, rfl, GeoG.keeps _ _ _ _ _ _ HGEO.out (fun b hb _ => ?_) (fun b hb _ => by omega), ?_⟩
  · have hne : b ≠ W.heap.size + 1 := by omega
    rw [Below.heap_setCell _ _ _ b hne, Below.heap_setCell _ _ _ b hne]
  · exact below_setCell' (below_setCell' HB5.out (Nat.le_succ _) _) (Nat.le_succ _) _

set_option maxHeartbeats 2000000 in
set_option maxRecDepth 100000 in
theorem geometry_Gc {k d : Int} {A K : Option Addr} {n m c c' : Nat} {t : Gm} (h1 : k ≠ 1) (h2 : k ≠ 2) (h3 : k ≠ 3) (h4 : k ≠ 4) (h5 : k ≠ 5) (h6 : k ≠ 6) (W : World)
    (hmk : ∀ W' : World, Below W.heap.size W W' → Calls Tryz.prog 80 #[.agg #[.int .i64 k, .int .i64 d, .slice A n c, .slice K m c']] W' fun e w' => ∃ (A1 : Option Addr) (n1 c1 : Nat) (q1 : Int), e = .returned (.agg #[.slice A1 n1 c1, .int .u8 q1]) ∧ GcG w' (fun b => W'.heap.size ≤ b) [.slice A1 n1 c1, .int .u8 q1] t ∧ Below W'.heap.size W' w') :
    Calls Tryz.prog 45 #[.agg #[.int .i64 k, .int .i64 d, .slice A n c, .slice K m c']] W fun e w' => ∃ (q : Int) (T a : Nat), e = .returned (.agg #[.int .i64 q, .iface T (.pointer (some ⟨a, 0, none⟩))]) ∧ GeoG w' (fun b => W.heap.size ≤ b) [.int .i64 q, .iface T (.pointer (some ⟨a, 0, none⟩))] t ∧ Below W.heap.size W w' := by
  have f1 : (k == 1) = false := by rw [beq_eq_false_iff_ne]; exact h1
  have f2 : (k == 2) = false := by rw [beq_eq_false_iff_ne]; exact h2
  have f3 : (k == 3) = false := by rw [beq_eq_false_iff_ne]; exact h3
  have f4 : (k == 4) = false := by rw [beq_eq_false_iff_ne]; exact h4
  have f5 : (k == 5) = false := by rw [beq_eq_false_iff_ne]; exact h5
  have f6 : (k == 6) = false := by rw [beq_eq_false_iff_ne]; exact h6
  clear h1 h2 h3 h4 h5 h6
  have hb2 : Below W.heap.size W ((W.alloc (.cells #[.int .i64 k, .int .i64 d, .slice A n c, .slice K m c'] 25)).alloc (.cells #[.int .i64 0, .nilIface] 72)) := ((Below.refl _ _).alloc (Nat.le_refl _) _).alloc (by simp) _
  have hx := Blk.new (W.alloc (.cells #[.int .i64 k, .int .i64 d, .slice A n c, .slice K m c'] 25)) 72 #[.int .i64 0, .nilIface]
  have hsz2 : ((W.alloc (.cells #[.int .i64 k, .int .i64 d, .slice A n c, .slice K m c'] 25)).alloc (.cells #[.int .i64 0, .nilIface] 72)).heap.size = W.heap.size + 2 := by simp
  rw [World.size_alloc] at hx
  have HM := Lib.hid (hmk _ hb2)
  have HX := Lib.hid hx
  have HB2 := Lib.hid hb2
  have HS2 := Lib.hid hsz2
  clear hb2 hx hmk hsz2
  go_enter Tryz.func45, Tryz.ntmps45
  go_wp2_with fail
  refine HM.out.mono ?_
  rintro e w2 ⟨yA, yn, yc, yq, rfl, h2, b2⟩
  have HB4 := Lib.hid (HB2.out.trans (b2.mono HB2.out.size))
  have X2 := Lib.hid (HX.out.below b2 HX.out.lt)
  have H2 := Lib.hid h2
  have hs2 : W.heap.size + 2 ≤ w2.heap.size := by have := b2.size; have := HS2.out; omega
  clear h2 b2
  go_wp2_with fail
  refine (AsGc yA yn yc yq w2).mono ?_
  rintro e w3 ⟨a', rfl, ha', hblk, b3⟩
  have HB5 := Lib.hid (HB4.out.trans (b3.mono HB4.out.size))
  have x3 := X2.out.below b3 X2.out.lt
  have z0 := x3.frozen 0
  have z1 := x3.frozen 1
  have y0 := x3.cell 0
  have y1 := x3.cell 1
  simp at y0 y1
  have e0 : (w3.setCell ⟨W.heap.size + 1, 0, none⟩ (.int .i64 0)).cell? ⟨W.heap.size + 1, 0, none⟩ = some (.int .i64 0) := by simpa using (x3.set_ 0 (.int .i64 0)).cell 0
  have e1 : ((w3.setCell ⟨W.heap.size + 1, 0, none⟩ (.int .i64 0)).setCell ⟨W.heap.size + 1, 1, none⟩ (.iface 115 (.pointer (some ⟨a', 0, none⟩)))).cell? ⟨W.heap.size + 1, 1, none⟩ = some (.iface 115 (.pointer (some ⟨a', 0, none⟩))) := by simpa using ((x3.set_ 0 (.int .i64 0)).set_ 1 (.iface 115 (.pointer (some ⟨a', 0, none⟩)))).cell 1
  have hgeo : GeoG w3 (fun b => W.heap.size + 2 ≤ b) [.int .i64 0, .iface 115 (.pointer (some ⟨a', 0, none⟩))] t := by
    have hr := GcG.keeps _ w3 _ (fun b => W.heap.size + 2 ≤ b) _ _ H2.out (fun b _ hl => b3.block b hl) (fun b hb _ => by have := HS2.out; omega)
    exact GeoG.of_gc hr (by omega) hblk
  have HGEO := Lib.hid hgeo
  clear hgeo b3 x3 hblk
  go_wp2
  refine bodyPost_ret (by simp [results, Tryz.results45, go_sem, e0, e1]; try rfl) rfl ?_
  refine ⟨_, _, _, rfl, GeoG.keeps _ _ _ _ _ _ HGEO.out (fun b hb _ => ?_) (fun b hb _ => by omega), ?_⟩
  · have hne : b ≠ W.heap.size + 1 := by omega
    rw [Below.heap_setCell _ _ _ b hne, Below.heap_setCell _ _ _ b hne]
  · exact below_setCell' (below_setCell' HB5.out (Nat.le_succ _) _) (Nat.le_succ _) _

theorem keep0 (ts : List Gm) : ts.filter (keepT 0) = ts := by
  rw [List.filter_eq_self]
  intro t _
  unfold keepT kidOf
  simp
theorem geometry_G {w0 : World} {B : Nat} {v : Value} {t : Gm} (h : GmAt w0 B v t) : t.sz ≤ 100000 → ∀ W : World, Below B w0 W → B ≤ W.heap.size →
    Calls Tryz.prog 45 #[v] W fun e w' => ∃ (q : Int) (T a : Nat), e = .returned (.agg #[.int .i64 q, .iface T (.pointer (some ⟨a, 0, none⟩))]) ∧ GeoG w' (fun b => W.heap.size ≤ b) [.int .i64 q, .iface T (.pointer (some ⟨a, 0, none⟩))] (newT t) ∧ Below W.heap.size W w' := by
  induction h with
  | @mk k d ns ks n m A K c c' us en em hn hbs hcap hk hs ih =>
    intro hsz W hb hB
    have hgm : GmAt w0 B (.agg #[.int .i64 k, .int .i64 d, .slice A n c, .slice K m c']) (.mk k d ns ks) := .mk en em hn hbs hcap hk hs
    have hB' : ∀ W' : World, Below W.heap.size W W' → Below B w0 W' ∧ B ≤ W'.heap.size := fun W' h => ⟨hb.trans (h.mono hB), Nat.le_trans hB h.size⟩
    by_cases h1 : k = 1
    · exact geometry_Pt h1 W (fun W' h => point_G hgm h1 hsz W' (hB' W' h).1 (hB' W' h).2)
    by_cases h2 : k = 2
    · exact geometry_Ls h2 W (fun W' h => line_G hgm h2 hsz W' (hB' W' h).1 (hB' W' h).2)
    by_cases h3 : k = 3
    · exact geometry_Pg h3 W (fun W' h => polygon_G hgm h3 hsz W' (hB' W' h).1 (hB' W' h).2)
    by_cases h4 : k = 4
    · exact geometry_Mp h4 W (fun W' h => multiPoint_G hgm h4 hsz W' (hB' W' h).1 (hB' W' h).2)
    by_cases h5 : k = 5
    · exact geometry_Ml h5 W (fun W' h => multiLine_G hgm h5 hsz W' (hB' W' h).1 (hB' W' h).2)
    by_cases h6 : k = 6
    · exact geometry_My h6 W (fun W' h => multiPolygon_G hgm h6 hsz W' (hB' W' h).1 (hB' W' h).2)
    have hk0 : kindN k = 0 := by unfold kindN; split <;> omega
    have hnt : newT (.mk k d ns ks) = partsT 0 (d % 4) (ks.map newT) := by
      rw [newT_mk, hk0, if_neg (by decide), keep0]
    unfold Gm.sz at hsz
    rw [hnt]
    exact geometry_Gc h1 h2 h3 h4 h5 h6 W (fun W' h => collection_of em (by omega) hk hs (fun i t ht => ih i t ht (by have := sz_kid ht; omega)) W' (hB' W' h).1 (hB' W' h).2)

end Go.Proofs.YtpbcfgehmalppaaGreatDoor

/- Texts of geometries of any kind. -/
namespace Go.Proofs.YtpbcfgehmalppaaGreatDoor
open Go.RowKit Go.Proofs.YtpbcfgehmalppaaGreatDoorW.PrintLast

attribute [local go_sem] run_store_float

attribute [local go_sem] asPt asLs asPg asMp asMl asMy asGc

/-- What AppendWKT does at a geometry. -/
def GeoWktAt (hi lo : Nat → Int) (t : Gm) : Prop := ∀ (ok : Nat → Prop) (q : Int) (T a : Nat) (w : World) (_ : GeoG w ok [.int .i64 q, .iface T (.pointer (some ⟨a, 0, none⟩))] t) (_ : OkT t) (v : Value) (bs : List Int) (_ : Own w v bs) (_ : FtTabs w hi lo)
    (_ : ∀ k, k < 7 → v.ownBlock ≠ some k) (_ : ∀ b, ok b → b < w.heap.size → v.ownBlock ≠ some b) (_ : bs.length + 200 + 10000 * t.np ≤ 60000000000000),
    Calls Tryz.prog 46 #[.agg #[.int .i64 q, .iface T (.pointer (some ⟨a, 0, none⟩))], v] w fun e w' => ∃ v', e = .returned v' ∧ Bf w w' v.ownBlock v' (bs ++ wktT hi lo t)
theorem partT0 (hi lo : Nat → Int) (t : Gm) : partT hi lo 0 t = wktT hi lo t := by
  unfold partT
  rw [if_pos rfl]
  rfl

set_option maxHeartbeats 8000000 in
set_option maxRecDepth 100000 in
theorem GcWkt_raw {ok : Nat → Prop} {A : Option Addr} {n c : Nat} {q : Int} {t : Gm} (hi lo : Nat → Int) (w : World) (h : GcG w ok [.slice A n c, .int .u8 q] t) (ho : OkT t) (v : Value) (bs : List Int) (hv : Own w v bs) (ht : FtTabs w hi lo)
    (hrow : ∀ k, k < 7 → v.ownBlock ≠ some k) (hokv : ∀ b, ok b → b < w.heap.size → v.ownBlock ≠ some b) (hl : bs.length + 10000 * t.np ≤ 60000000000000) (hW : ∀ s ∈ t.kids, GeoWktAt hi lo s) :
    Calls Tryz.prog 82 #[.agg #[.slice A n c, .int .u8 q], v] w fun e w' => ∃ v', e = .returned v' ∧ Bf w w' v.ownBlock v' (bs ++ wktT hi lo t) := by
  obtain ⟨i0, hi0, hz0, hz1, hz2⟩ := info_parts info_u8
  have hN := RowG.nums (fun _ _ _ _ h => h.nums) h
  obtain ⟨A', n', c', q', ks, rfl, e, q0, q1, hl1, hn, hr⟩ := h
  simp only [List.cons.injEq, Value.slice.injEq, Value.int.injEq, and_true, true_and] at e
  obtain ⟨⟨rfl, rfl, rfl⟩, rfl⟩ := e
  have hNk : ∀ t ∈ ks, NumT t := by cases hN with | mk _ hk => exact hk
  have hOk : ∀ t ∈ ks, OkT t := by cases ho with | mk _ _ _ _ hk => exact hk
  rw [np_mk, show ([] : List Nat).length / wd q = 0 from Nat.zero_div _] at hl
  have hbody := bodyT_row hi lo 0 q ks
  have href := head_ref hi lo (t := .mk 0 q [] ks) q0 q1 bs
  have htl := tagB_len q
  have hnm : strB { data := #[71, 69, 79, 77, 69, 84, 82, 89, 67, 79, 76, 76, 69, 67, 84, 73, 79, 78] } = nameB 0 := rfl
  have hnl := nameB_len 0
  change bs ++ nameB 0 ++ tagB q ++ (sepO (bs ++ nameB 0 ++ tagB q) _ ++ _) = _ at href
  have hjr := fun (k : Nat) (s : Gm) (hk : ks[k]? = some s) => join_room hi lo 0 hNk hk
  have hja := fun (k : Nat) hk => join_all hi lo 0 hNk k hk
  have hgd := fun (k : Nat) (s : Gm) (hk : ks[k]? = some s) => kidsT_getD hi lo 0 hk
  rw [hl1] at hbody
  generalize (ks.map Gm.np).sum = SP at *
  have hb1 : Below w.heap.size w (w.alloc (.cells #[.slice A n c, .int .u8 q] 113)) := (Below.refl _ _).alloc (Nat.le_refl _) _
  have hbox := Blk.new w 113 #[.slice A n c, .int .u8 q]
  have hne : v.ownBlock ≠ some w.heap.size := fun e => by have := (hv.lt _ e).2; omega
  have ho1 : Own (w.alloc (.cells #[.slice A n c, .int .u8 q] 113)) v bs := hv.alloc _
  have ht1 := ht.below hb1
  have hg0 : w.grownBy (w.alloc (.cells #[.slice A n c, .int .u8 q] 113)) none := World.grownBy_alloc w _ none
  have hsz1 : w.heap.size ≤ (w.alloc (.cells #[.slice A n c, .int .u8 q] 113)).heap.size := by simp
  have HD := Lib.hid (header_any { data := #[71, 69, 79, 77, 69, 84, 82, 89, 67, 79, 76, 76, 69, 67, 84, 73, 79, 78] } q q0 q1 (w.alloc (.cells #[.slice A n c, .int .u8 q] 113)) v bs ho1 (by rw [← strB_length, hnm]; omega))
  rw [hnm] at HD
  have r0 := hbox.cell 0
  have r1 := hbox.cell 1
  simp at r0 r1
  have HBX := Lib.hid hbox
  have HB1 := Lib.hid hb1
  have HT := Lib.hid ht1
  have HG0 := Lib.hid hg0
  have HR := Lib.hid hr
  have HL1 := Lib.hid hl1
  have HOK := Lib.hid hOk
  have HBD := Lib.hid hbody
  have HRF := Lib.hid href
  have HJR := Lib.hid hjr
  have HJA := Lib.hid hja
  have HGD := Lib.hid hgd
  have HKV := Lib.hid hokv
  have HOV := Lib.hid ho1
  have HWF := Lib.hid hW
  clear hW
  have HNM := Lib.hid hnm
  clear hbox hb1 ht1 ht hg0 hr hl1 hOk hbody href hjr hja hgd hokv hN hNk ho ho1 hnm hv
  go_enter Tryz.func82, Tryz.ntmps82
  go_wp2_with fail
  refine HD.out.mono ?_
  rintro e w2 ⟨v2, rfl, h2⟩
  have x2 := HBX.out.bf h2 hne
  clear r0 r1
  have r0 := x2.cell 0
  have r1 := x2.cell 1
  simp at r0 r1
  generalize hBS : bs ++ nameB 0 ++ tagB q = BS at *
  have hBSl : BS.length ≤ bs.length + 22 := by rw [← hBS]; simp only [len_app]; omega
  have hBSn : ∃ m, BS.length = m + 1 := by
    refine ⟨BS.length - 1, ?_⟩
    have : 0 < BS.length := by rw [← hBS, len_app, len_app]; have : 0 < (nameB 0).length := by decide
                               omega
    omega
  obtain ⟨nb, hnb⟩ := hBSn
  have HNB := Lib.hid hnb
  have H2 := Lib.hid h2
  clear hBS h2 x2 hnb
  by_cases hn0 : n = 0
  · subst hn0
    rw [if_pos rfl] at HBD
    go_wp2_with fail
    refine (empty_any _ _ BS nb HNB.out (Bf.own_ H2.out) (by omega)).mono ?_
    rintro e w3 ⟨v3, rfl, h3⟩
    have H3 := Lib.hid (H2.out.trans h3)
    clear h3
    go_wp2
    go_ret
    refine ⟨_, rfl, ?_⟩
    have h3 := H3.out.pre_none HG0.out
    rw [sepO_empty, ← HBD.out, HRF.out] at h3
    exact h3
  · have hne0 : ((n : Int) == 0) = false := by rw [beq_eq_false_iff_ne]; omega
    rw [if_neg hn0] at HBD
    have h2 := H2.out
    go_wp2_with ((at_builtin; refine wpList_bf_append1g rfl _ _ _ rfl Tryz.underlying30 hi0 hz0 hz1 hz2 rfl rfl (by assumption) (by first | rfl | simp) (by first | omega | (simp only [len_app, List.length_cons, List.length_nil]; omega)) ?_; intro v1 W1 h1); have x3 := HBX.out.bf h1 hne; have r0 := x3.cell 0; have r1 := x3.cell 1; simp at r0 r1; clear x3)
    have H3 := Lib.hid h1
    clear h1 h2
    go_loopw [1, 23] (fun u i wr => ∃ k : Nat, k ≤ n ∧ i = .int .i64 k ∧ Bf (w.alloc (.cells #[.slice A n c, .int .u8 q] 113)) wr v.ownBlock u (BS ++ [40] ++ joinS 44 (kidsT hi lo 0 ks) k)) (fun _ i _ => n - (intOf i).toNat)
    case atStart => exact ⟨0, Nat.zero_le _, rfl, by simpa [joinS] using H3.out⟩
    case round =>
      obtain ⟨k, hk, rfl, h1⟩ := hrel
      have hjk := HJA.out k (by rw [HL1.out]; exact hk)
      have hwz : w.heap.size + 1 ≤ wr.heap.size := by have := h1.grown.size; simpa using this
      by_cases hlt : k < n
      · obtain ⟨g, x, s, rfl, hgok, hr, hxl, hcl, hrs, hgl⟩ := row_at HL1.out HR.out hlt
        replace hgl := hgl (by decide)
        have hsm : OkT s := HOK.out s (List.mem_of_getElem? hr)
        have HSMEM : Hid (s ∈ (Gm.mk 0 q [] ks).kids) := Lib.hid (List.mem_of_getElem? hr)
        obtain ⟨rq, rT, ra, rfl, -⟩ := hrs.shape
        have hgv := HKV.out g hgok hgl
        have j0 := cell_at HB1.out h1 hgl hgv (hcl 0 _ rfl)
        have j1 := cell_at HB1.out h1 hgl hgv (hcl 1 _ rfl)
        rw [Nat.add_zero] at j0
        have hstep : joinS 44 (kidsT hi lo 0 ks) (k + 1) = (if 0 < k then joinS 44 (kidsT hi lo 0 ks) k ++ [44] else joinS 44 (kidsT hi lo 0 ks) k) ++ (kidsT hi lo 0 ks).getD k [] := rfl
        rw [HGD.out k s hr, partT0] at hstep
        have hroom := HJR.out k s hr
        have hT0 : k = 0 → joinS 44 (kidsT hi lo 0 ks) k = [] := fun h => by rw [h]; rfl
        generalize joinS 44 (kidsT hi lo 0 ks) k = T at *
        have hlk : (BS ++ [40] ++ T).length + 10000 * s.np + 300 ≤ 60000000000000 := by simp only [len_app, List.length_cons, List.length_nil]; omega
        have HST := Lib.hid hstep
        have HRS := Lib.hid hrs
        have HSM := Lib.hid hsm
        generalize hBT : BS ++ [40] ++ T = BT at *
        have HBT := Lib.hid hBT
        have hA : Below wr.heap.size wr (wr.alloc (.cells #[.int .i64 rq, .iface rT (.pointer (some ⟨ra, 0, none⟩))] 72)) := (Below.refl _ _).alloc (Nat.le_refl _) _
        have hu : u1.ownBlock ≠ some wr.heap.size := fun e => by have := (h1.own.lt _ e).2; omega
        have hlb := Blk.new wr 72 #[.int .i64 rq, .iface rT (.pointer (some ⟨ra, 0, none⟩))]
        have H1 := Lib.hid (h1.below hA)
        have HLB := Lib.hid hlb
        clear hstep hrs hcl hr hBT hsm h1 hA
        by_cases hk0 : 0 < k
        · have hd : decide (0 < (k : Int)) = true := decide_eq_true (by omega)
          rw [if_pos hk0] at HST
          have h1 := Bf.start H1.out.own
          go_wp2_with ((at_builtin; refine wpList_bf_append1g rfl _ _ _ rfl Tryz.underlying30 hi0 hz0 hz1 hz2 rfl rfl (by assumption) (by first | rfl | simp) (by first | omega | (simp only [len_app, List.length_cons, List.length_nil]; omega)) ?_; intro v1 W1 h1); have hlb1 := HLB.out.bf h1 hu; have l0 := hlb1.cell 0; have l1 := hlb1.cell 1; simp at l0 l1; clear hlb1)
          have HC := Lib.hid (H1.out.trans h1)
          clear h1
          refine (HWF.out s HSMEM.out _ _ _ _ _ (rel_at GeoG.keeps HB1.out HC.out HKV.out (fun b h => h.1) HRS.out) HSM.out _ (BT ++ [44]) (Bf.own_ HC.out) (HT.out.of_bf HC.out hrow) (place_row HC.out hrow HT.out.siz) (place_ok HC.out HKV.out hsz1) (by first | omega | (simp only [len_app, List.length_cons, List.length_nil]; omega))).mono ?_
          rintro e w5 ⟨v5, rfl, h5⟩
          have H5 := Lib.hid (HC.out.trans h5)
          clear h5
          go_wp2
          go_roundw
          case rel =>
            refine ⟨k + 1, by omega, by go_num, ?_⟩
            rw [HST.out]
            have h5 := H5.out
            rw [← HBT.out] at h5
            simpa [List.append_assoc] using h5
          case measure => simp [intOf]; omega
        · obtain rfl : k = 0 := by omega
          have hd : decide (0 < ((0 : Nat) : Int)) = false := rfl
          rw [if_neg hk0] at HST
          have hop : opensB BT := by rw [← HBT.out, hT0 rfl, List.append_nil]; exact opensB_40 BS
          have HC := H1
          go_wp2_with fail
          refine (HWF.out s HSMEM.out _ _ _ _ _ (rel_at GeoG.keeps HB1.out HC.out HKV.out (fun b h => h.1) HRS.out) HSM.out _ BT (Bf.own_ HC.out) (HT.out.of_bf HC.out hrow) (place_row HC.out hrow HT.out.siz) (place_ok HC.out HKV.out hsz1) (by first | omega | (simp only [len_app, List.length_cons, List.length_nil]; omega))).mono ?_
          rintro e w5 ⟨v5, rfl, h5⟩
          have H5 := Lib.hid (HC.out.trans h5)
          clear h5
          go_wp2
          go_roundw
          case rel =>
            refine ⟨1, by omega, by go_num, ?_⟩
            rw [HST.out]
            have h5 := H5.out
            rw [← HBT.out] at h5
            simpa [List.append_assoc] using h5
          case measure => simp [intOf]; omega
      · obtain rfl : n = k := by omega
        have hlk : (BS ++ [40] ++ joinS 44 (kidsT hi lo 0 ks) n).length ≤ 60000000000000 := by simp only [len_app, List.length_cons, List.length_nil]; omega
        generalize hBT : BS ++ [40] ++ joinS 44 (kidsT hi lo 0 ks) n = BT at *
        have HBT := Lib.hid hBT
        clear hBT
        go_wp2_with (at_builtin; refine wpList_bf_append1g rfl _ _ _ rfl Tryz.underlying30 hi0 hz0 hz1 hz2 rfl rfl (by assumption) (by first | rfl | simp) (by first | omega | (simp only [len_app, List.length_cons, List.length_nil]; omega)) ?_; intro v1 W1 h1)
        go_ret
        refine ⟨_, rfl, ?_⟩
        have h3 := h1.pre_none HG0.out
        have e : BT ++ [41] = bs ++ wktT hi lo (.mk 0 q [] ks) := by
          rw [← HRF.out, HBD.out, List.append_assoc [40], sepO_list, ← HBT.out]
          simp [List.append_assoc]
        rw [e] at h3
        exact h3

set_option maxHeartbeats 2000000 in
set_option maxRecDepth 100000 in
theorem GeoWkt_Pt {ok : Nat → Prop} (x y z m : Nat) (q : Int) (f : Bool) {t : Gm} (hi lo : Nat → Int) (a : Nat) (w : World) (ha : ok a) (hb : Blk w a 52 #[.float .f64 x, .float .f64 y, .float .f64 z, .float .f64 m, .int .u8 q, .bool f]) (h : PtG w ok [.float .f64 x, .float .f64 y, .float .f64 z, .float .f64 m, .int .u8 q, .bool f] t) (ho : OkT t) (v : Value) (bs : List Int) (hv : Own w v bs) (ht : FtTabs w hi lo)
    (hrow : ∀ k, k < 7 → v.ownBlock ≠ some k) (hokv : ∀ b, ok b → b < w.heap.size → v.ownBlock ≠ some b) (hl : bs.length + 200 + 10000 * t.np ≤ 60000000000000) :
    Calls Tryz.prog 46 #[.agg #[.int .i64 1, .iface 116 (.pointer (some ⟨a, 0, none⟩))], v] w fun e w' => ∃ v', e = .returned v' ∧ Bf w w' v.ownBlock v' (bs ++ wktT hi lo t) := by
  have hb1 : Below w.heap.size w (w.alloc (.cells #[.int .i64 1, .iface 116 (.pointer (some ⟨a, 0, none⟩))] 72)) := (Below.refl _ _).alloc (Nat.le_refl _) _
  have hblk := hb.below hb1 hb.lt
  have hcall := PtWkt_G hi lo (w.alloc (.cells #[.int .i64 1, .iface 116 (.pointer (some ⟨a, 0, none⟩))] 72)) (PtG.keeps _ _ _ (fun b => ok b ∧ b < w.heap.size) _ _ h (fun b _ hl => hb1.block b hl) (fun b h hl => ⟨h, hl⟩)) ho v bs (hv.alloc _) (ht.below hb1) hrow (fun b hb _ => hokv b hb.1 hb.2) (by omega)
  have hg0 : w.grownBy (w.alloc (.cells #[.int .i64 1, .iface 116 (.pointer (some ⟨a, 0, none⟩))] 72)) none := World.grownBy_alloc w _ none
  have c0 := hblk.cell 0
  have c1 := hblk.cell 1
  have c2 := hblk.cell 2
  have c3 := hblk.cell 3
  have c4 := hblk.cell 4
  have c5 := hblk.cell 5
  simp at c0 c1 c2 c3 c4 c5
  have HC := Lib.hid hcall
  have HG0 := Lib.hid hg0
  clear hb1 hblk hcall hg0 hb h ho hv ht hrow hokv
  go_enter Tryz.func46, Tryz.ntmps46
  go_wp2_with fail
  refine HC.out.mono ?_
  rintro e w2 ⟨v2, rfl, h2⟩
  have H2 := Lib.hid (h2.pre_none HG0.out)
  clear h2
  go_wp2
  go_ret
  exact ⟨_, rfl, H2.out⟩

set_option maxHeartbeats 2000000 in
set_option maxRecDepth 100000 in
theorem GeoWkt_Ls {ok : Nat → Prop} (q : Int) (A : Option Addr) (n c : Nat) {t : Gm} (hi lo : Nat → Int) (a : Nat) (w : World) (ha : ok a) (hb : Blk w a 93 #[.int .u8 q, .slice A n c]) (h : LsG w ok [.int .u8 q, .slice A n c] t) (ho : OkT t) (v : Value) (bs : List Int) (hv : Own w v bs) (ht : FtTabs w hi lo)
    (hrow : ∀ k, k < 7 → v.ownBlock ≠ some k) (hokv : ∀ b, ok b → b < w.heap.size → v.ownBlock ≠ some b) (hl : bs.length + 200 + 10000 * t.np ≤ 60000000000000) :
    Calls Tryz.prog 46 #[.agg #[.int .i64 2, .iface 117 (.pointer (some ⟨a, 0, none⟩))], v] w fun e w' => ∃ v', e = .returned v' ∧ Bf w w' v.ownBlock v' (bs ++ wktT hi lo t) := by
  have hb1 : Below w.heap.size w (w.alloc (.cells #[.int .i64 2, .iface 117 (.pointer (some ⟨a, 0, none⟩))] 72)) := (Below.refl _ _).alloc (Nat.le_refl _) _
  have hblk := hb.below hb1 hb.lt
  have hcall := LsWkt_G hi lo (w.alloc (.cells #[.int .i64 2, .iface 117 (.pointer (some ⟨a, 0, none⟩))] 72)) (LsG.keeps _ _ _ (fun b => ok b ∧ b < w.heap.size) _ _ h (fun b _ hl => hb1.block b hl) (fun b h hl => ⟨h, hl⟩)) ho v bs (hv.alloc _) (ht.below hb1) hrow (fun b hb _ => hokv b hb.1 hb.2) (by omega)
  have hg0 : w.grownBy (w.alloc (.cells #[.int .i64 2, .iface 117 (.pointer (some ⟨a, 0, none⟩))] 72)) none := World.grownBy_alloc w _ none
  have c0 := hblk.cell 0
  have c1 := hblk.cell 1
  simp at c0 c1
  have HC := Lib.hid hcall
  have HG0 := Lib.hid hg0
  clear hb1 hblk hcall hg0 hb h ho hv ht hrow hokv
  go_enter Tryz.func46, Tryz.ntmps46
  go_wp2_with fail
  refine HC.out.mono ?_
  rintro e w2 ⟨v2, rfl, h2⟩
  have H2 := Lib.hid (h2.pre_none HG0.out)
  clear h2
  go_wp2
  go_ret
  exact ⟨_, rfl, H2.out⟩

set_option maxHeartbeats 2000000 in
set_option maxRecDepth 100000 in
theorem GeoWkt_Pg {ok : Nat → Prop} (A : Option Addr) (n c : Nat) (q : Int) {t : Gm} (hi lo : Nat → Int) (a : Nat) (w : World) (ha : ok a) (hb : Blk w a 63 #[.slice A n c, .int .u8 q]) (h : PgG w ok [.slice A n c, .int .u8 q] t) (ho : OkT t) (v : Value) (bs : List Int) (hv : Own w v bs) (ht : FtTabs w hi lo)
    (hrow : ∀ k, k < 7 → v.ownBlock ≠ some k) (hokv : ∀ b, ok b → b < w.heap.size → v.ownBlock ≠ some b) (hl : bs.length + 200 + 10000 * t.np ≤ 60000000000000) :
    Calls Tryz.prog 46 #[.agg #[.int .i64 3, .iface 118 (.pointer (some ⟨a, 0, none⟩))], v] w fun e w' => ∃ v', e = .returned v' ∧ Bf w w' v.ownBlock v' (bs ++ wktT hi lo t) := by
  have hb1 : Below w.heap.size w (w.alloc (.cells #[.int .i64 3, .iface 118 (.pointer (some ⟨a, 0, none⟩))] 72)) := (Below.refl _ _).alloc (Nat.le_refl _) _
  have hblk := hb.below hb1 hb.lt
  have hcall := PgWkt_G hi lo (w.alloc (.cells #[.int .i64 3, .iface 118 (.pointer (some ⟨a, 0, none⟩))] 72)) (PgG.keeps _ _ _ (fun b => ok b ∧ b < w.heap.size) _ _ h (fun b _ hl => hb1.block b hl) (fun b h hl => ⟨h, hl⟩)) ho v bs (hv.alloc _) (ht.below hb1) hrow (fun b hb _ => hokv b hb.1 hb.2) (by omega)
  have hg0 : w.grownBy (w.alloc (.cells #[.int .i64 3, .iface 118 (.pointer (some ⟨a, 0, none⟩))] 72)) none := World.grownBy_alloc w _ none
  have c0 := hblk.cell 0
  have c1 := hblk.cell 1
  simp at c0 c1
  have HC := Lib.hid hcall
  have HG0 := Lib.hid hg0
  clear hb1 hblk hcall hg0 hb h ho hv ht hrow hokv
  go_enter Tryz.func46, Tryz.ntmps46
  go_wp2_with fail
  refine HC.out.mono ?_
  rintro e w2 ⟨v2, rfl, h2⟩
  have H2 := Lib.hid (h2.pre_none HG0.out)
  clear h2
  go_wp2
  go_ret
  exact ⟨_, rfl, H2.out⟩

set_option maxHeartbeats 2000000 in
set_option maxRecDepth 100000 in
theorem GeoWkt_Mp {ok : Nat → Prop} (A : Option Addr) (n c : Nat) (q : Int) {t : Gm} (hi lo : Nat → Int) (a : Nat) (w : World) (ha : ok a) (hb : Blk w a 105 #[.slice A n c, .int .u8 q]) (h : MpG w ok [.slice A n c, .int .u8 q] t) (ho : OkT t) (v : Value) (bs : List Int) (hv : Own w v bs) (ht : FtTabs w hi lo)
    (hrow : ∀ k, k < 7 → v.ownBlock ≠ some k) (hokv : ∀ b, ok b → b < w.heap.size → v.ownBlock ≠ some b) (hl : bs.length + 200 + 10000 * t.np ≤ 60000000000000) :
    Calls Tryz.prog 46 #[.agg #[.int .i64 4, .iface 119 (.pointer (some ⟨a, 0, none⟩))], v] w fun e w' => ∃ v', e = .returned v' ∧ Bf w w' v.ownBlock v' (bs ++ wktT hi lo t) := by
  have hb1 : Below w.heap.size w (w.alloc (.cells #[.int .i64 4, .iface 119 (.pointer (some ⟨a, 0, none⟩))] 72)) := (Below.refl _ _).alloc (Nat.le_refl _) _
  have hblk := hb.below hb1 hb.lt
  have hcall := MpWkt_G hi lo (w.alloc (.cells #[.int .i64 4, .iface 119 (.pointer (some ⟨a, 0, none⟩))] 72)) (MpG.keeps _ _ _ (fun b => ok b ∧ b < w.heap.size) _ _ h (fun b _ hl => hb1.block b hl) (fun b h hl => ⟨h, hl⟩)) ho v bs (hv.alloc _) (ht.below hb1) hrow (fun b hb _ => hokv b hb.1 hb.2) (by omega)
  have hg0 : w.grownBy (w.alloc (.cells #[.int .i64 4, .iface 119 (.pointer (some ⟨a, 0, none⟩))] 72)) none := World.grownBy_alloc w _ none
  have c0 := hblk.cell 0
  have c1 := hblk.cell 1
  simp at c0 c1
  have HC := Lib.hid hcall
  have HG0 := Lib.hid hg0
  clear hb1 hblk hcall hg0 hb h ho hv ht hrow hokv
  go_enter Tryz.func46, Tryz.ntmps46
  go_wp2_with fail
  refine HC.out.mono ?_
  rintro e w2 ⟨v2, rfl, h2⟩
  have H2 := Lib.hid (h2.pre_none HG0.out)
  clear h2
  go_wp2
  go_ret
  exact ⟨_, rfl, H2.out⟩

set_option maxHeartbeats 2000000 in
set_option maxRecDepth 100000 in
theorem GeoWkt_Ml {ok : Nat → Prop} (A : Option Addr) (n c : Nat) (q : Int) {t : Gm} (hi lo : Nat → Int) (a : Nat) (w : World) (ha : ok a) (hb : Blk w a 67 #[.slice A n c, .int .u8 q]) (h : MlG w ok [.slice A n c, .int .u8 q] t) (ho : OkT t) (v : Value) (bs : List Int) (hv : Own w v bs) (ht : FtTabs w hi lo)
    (hrow : ∀ k, k < 7 → v.ownBlock ≠ some k) (hokv : ∀ b, ok b → b < w.heap.size → v.ownBlock ≠ some b) (hl : bs.length + 200 + 10000 * t.np ≤ 60000000000000) :
    Calls Tryz.prog 46 #[.agg #[.int .i64 5, .iface 120 (.pointer (some ⟨a, 0, none⟩))], v] w fun e w' => ∃ v', e = .returned v' ∧ Bf w w' v.ownBlock v' (bs ++ wktT hi lo t) := by
  have hb1 : Below w.heap.size w (w.alloc (.cells #[.int .i64 5, .iface 120 (.pointer (some ⟨a, 0, none⟩))] 72)) := (Below.refl _ _).alloc (Nat.le_refl _) _
  have hblk := hb.below hb1 hb.lt
  have hcall := MlWkt_G hi lo (w.alloc (.cells #[.int .i64 5, .iface 120 (.pointer (some ⟨a, 0, none⟩))] 72)) (MlG.keeps _ _ _ (fun b => ok b ∧ b < w.heap.size) _ _ h (fun b _ hl => hb1.block b hl) (fun b h hl => ⟨h, hl⟩)) ho v bs (hv.alloc _) (ht.below hb1) hrow (fun b hb _ => hokv b hb.1 hb.2) (by omega)
  have hg0 : w.grownBy (w.alloc (.cells #[.int .i64 5, .iface 120 (.pointer (some ⟨a, 0, none⟩))] 72)) none := World.grownBy_alloc w _ none
  have c0 := hblk.cell 0
  have c1 := hblk.cell 1
  simp at c0 c1
  have HC := Lib.hid hcall
  have HG0 := Lib.hid hg0
  clear hb1 hblk hcall hg0 hb h ho hv ht hrow hokv
  go_enter Tryz.func46, Tryz.ntmps46
  go_wp2_with fail
  refine HC.out.mono ?_
  rintro e w2 ⟨v2, rfl, h2⟩
  have H2 := Lib.hid (h2.pre_none HG0.out)
  clear h2
  go_wp2
  go_ret
  exact ⟨_, rfl, H2.out⟩

set_option maxHeartbeats 2000000 in
set_option maxRecDepth 100000 in
theorem GeoWkt_My {ok : Nat → Prop} (A : Option Addr) (n c : Nat) (q : Int) {t : Gm} (hi lo : Nat → Int) (a : Nat) (w : World) (ha : ok a) (hb : Blk w a 109 #[.slice A n c, .int .u8 q]) (h : MyG w ok [.slice A n c, .int .u8 q] t) (ho : OkT t) (v : Value) (bs : List Int) (hv : Own w v bs) (ht : FtTabs w hi lo)
    (hrow : ∀ k, k < 7 → v.ownBlock ≠ some k) (hokv : ∀ b, ok b → b < w.heap.size → v.ownBlock ≠ some b) (hl : bs.length + 200 + 10000 * t.np ≤ 60000000000000) :
    Calls Tryz.prog 46 #[.agg #[.int .i64 6, .iface 121 (.pointer (some ⟨a, 0, none⟩))], v] w fun e w' => ∃ v', e = .returned v' ∧ Bf w w' v.ownBlock v' (bs ++ wktT hi lo t) := by
  have hb1 : Below w.heap.size w (w.alloc (.cells #[.int .i64 6, .iface 121 (.pointer (some ⟨a, 0, none⟩))] 72)) := (Below.refl _ _).alloc (Nat.le_refl _) _
  have hblk := hb.below hb1 hb.lt
  have hcall := MyWkt_G hi lo (w.alloc (.cells #[.int .i64 6, .iface 121 (.pointer (some ⟨a, 0, none⟩))] 72)) (MyG.keeps _ _ _ (fun b => ok b ∧ b < w.heap.size) _ _ h (fun b _ hl => hb1.block b hl) (fun b h hl => ⟨h, hl⟩)) ho v bs (hv.alloc _) (ht.below hb1) hrow (fun b hb _ => hokv b hb.1 hb.2) (by omega)
  have hg0 : w.grownBy (w.alloc (.cells #[.int .i64 6, .iface 121 (.pointer (some ⟨a, 0, none⟩))] 72)) none := World.grownBy_alloc w _ none
  have c0 := hblk.cell 0
  have c1 := hblk.cell 1
  simp at c0 c1
  have HC := Lib.hid hcall
  have HG0 := Lib.hid hg0
  clear hb1 hblk hcall hg0 hb h ho hv ht hrow hokv
  go_enter Tryz.func46, Tryz.ntmps46
  go_wp2_with fail
  refine HC.out.mono ?_
  rintro e w2 ⟨v2, rfl, h2⟩
  have H2 := Lib.hid (h2.pre_none HG0.out)
  clear h2
  go_wp2
  go_ret
  exact ⟨_, rfl, H2.out⟩

set_option maxHeartbeats 2000000 in
set_option maxRecDepth 100000 in
theorem GeoWkt_Gc {ok : Nat → Prop} (A : Option Addr) (n c : Nat) (q : Int) {t : Gm} (hi lo : Nat → Int) (a : Nat) (w : World) (ha : ok a) (hb : Blk w a 113 #[.slice A n c, .int .u8 q]) (h : GcG w ok [.slice A n c, .int .u8 q] t) (ho : OkT t) (v : Value) (bs : List Int) (hv : Own w v bs) (ht : FtTabs w hi lo)
    (hrow : ∀ k, k < 7 → v.ownBlock ≠ some k) (hokv : ∀ b, ok b → b < w.heap.size → v.ownBlock ≠ some b) (hl : bs.length + 200 + 10000 * t.np ≤ 60000000000000) (hW : ∀ s ∈ t.kids, GeoWktAt hi lo s) :
    Calls Tryz.prog 46 #[.agg #[.int .i64 0, .iface 115 (.pointer (some ⟨a, 0, none⟩))], v] w fun e w' => ∃ v', e = .returned v' ∧ Bf w w' v.ownBlock v' (bs ++ wktT hi lo t) := by
  have hb1 : Below w.heap.size w (w.alloc (.cells #[.int .i64 0, .iface 115 (.pointer (some ⟨a, 0, none⟩))] 72)) := (Below.refl _ _).alloc (Nat.le_refl _) _
  have hblk := hb.below hb1 hb.lt
  have hcall := GcWkt_raw hi lo (w.alloc (.cells #[.int .i64 0, .iface 115 (.pointer (some ⟨a, 0, none⟩))] 72)) (GcG.keeps _ _ _ (fun b => ok b ∧ b < w.heap.size) _ _ h (fun b _ hl => hb1.block b hl) (fun b h hl => ⟨h, hl⟩)) ho v bs (hv.alloc _) (ht.below hb1) hrow (fun b hb _ => hokv b hb.1 hb.2) (by omega) hW
  have hg0 : w.grownBy (w.alloc (.cells #[.int .i64 0, .iface 115 (.pointer (some ⟨a, 0, none⟩))] 72)) none := World.grownBy_alloc w _ none
  have c0 := hblk.cell 0
  have c1 := hblk.cell 1
  simp at c0 c1
  have HC := Lib.hid hcall
  have HG0 := Lib.hid hg0
  clear hb1 hblk hcall hg0 hb h ho hv ht hrow hokv
  go_enter Tryz.func46, Tryz.ntmps46
  go_wp2_with fail
  refine HC.out.mono ?_
  rintro e w2 ⟨v2, rfl, h2⟩
  have H2 := Lib.hid (h2.pre_none HG0.out)
  clear h2
  go_wp2
  go_ret
  exact ⟨_, rfl, H2.out⟩

theorem GeoWkt_all (hi lo : Nat → Int) : ∀ t : Gm, GeoWktAt hi lo t
  | t => fun ok q T a w h ho v bs hv ht hrow hokv hl => by
    generalize hx : [Value.int .i64 q, .iface T (.pointer (some ⟨a, 0, none⟩))] = x at h
    cases h with
    | @leaf _ K ST PT a' cs _ hlf ha hb =>
      simp only [List.cons.injEq, Value.int.injEq, Value.iface.injEq, Value.pointer.injEq, Option.some.injEq, Addr.mk.injEq, and_true, true_and] at hx
      obtain ⟨rfl, rfl, rfl⟩ := hx
      rcases hlf with ⟨rfl, rfl, rfl, hr⟩ | ⟨rfl, rfl, rfl, hr⟩ | ⟨rfl, rfl, rfl, hr⟩ | ⟨rfl, rfl, rfl, hr⟩ | ⟨rfl, rfl, rfl, hr⟩ | ⟨rfl, rfl, rfl, hr⟩
      · obtain ⟨vx, vy, vz, vm, vq, vf, rfl, -⟩ := hr.shape
        exact GeoWkt_Pt vx vy vz vm vq vf hi lo _ w ha hb hr ho v bs hv ht hrow hokv hl
      · obtain ⟨vq, vA, vn, vc, rfl, -⟩ := hr.shape
        exact GeoWkt_Ls vq vA vn vc hi lo _ w ha hb hr ho v bs hv ht hrow hokv hl
      · obtain ⟨vA, vn, vc, vq, rfl, -⟩ := hr.shape
        exact GeoWkt_Pg vA vn vc vq hi lo _ w ha hb hr ho v bs hv ht hrow hokv hl
      · obtain ⟨vA, vn, vc, vq, rfl, -⟩ := hr.shape
        exact GeoWkt_Mp vA vn vc vq hi lo _ w ha hb hr ho v bs hv ht hrow hokv hl
      · obtain ⟨vA, vn, vc, vq, rfl, -⟩ := hr.shape
        exact GeoWkt_Ml vA vn vc vq hi lo _ w ha hb hr ho v bs hv ht hrow hokv hl
      · obtain ⟨vA, vn, vc, vq, rfl, -⟩ := hr.shape
        exact GeoWkt_My vA vn vc vq hi lo _ w ha hb hr ho v bs hv ht hrow hokv hl
    | @gc _ a' A n c q' ks css ha hb q0 q1 hl' hn how h2 h3 h4 h5 =>
      simp only [List.cons.injEq, Value.int.injEq, Value.iface.injEq, Value.pointer.injEq, Option.some.injEq, Addr.mk.injEq, and_true, true_and] at hx
      obtain ⟨rfl, rfl, rfl⟩ := hx
      exact GeoWkt_Gc A n c q' hi lo _ w ha hb ⟨A, n, c, q', ks, rfl, rfl, q0, q1, hl', hn, css, how, h2, h3, h4, h5⟩ ho v bs hv ht hrow hokv hl (fun s hs => GeoWkt_all hi lo s)
termination_by t => SizeOf.sizeOf t
decreasing_by (have := List.sizeOf_lt_of_mem hs; simp [Gm.kids] at *; omega)
theorem GcWkt_G {ok : Nat → Prop} {A : Option Addr} {n c : Nat} {q : Int} {t : Gm} (hi lo : Nat → Int) (w : World) (h : GcG w ok [.slice A n c, .int .u8 q] t) (ho : OkT t) (v : Value) (bs : List Int) (hv : Own w v bs) (ht : FtTabs w hi lo)
    (hrow : ∀ k, k < 7 → v.ownBlock ≠ some k) (hokv : ∀ b, ok b → b < w.heap.size → v.ownBlock ≠ some b) (hl : bs.length + 10000 * t.np ≤ 60000000000000) :
    Calls Tryz.prog 82 #[.agg #[.slice A n c, .int .u8 q], v] w fun e w' => ∃ v', e = .returned v' ∧ Bf w w' v.ownBlock v' (bs ++ wktT hi lo t) := GcWkt_raw hi lo w h ho v bs hv ht hrow hokv hl (fun s _ => GeoWkt_all hi lo s)

set_option maxRecDepth 100000 in
theorem GcText_G {ok : Nat → Prop} {A : Option Addr} {n c : Nat} {q : Int} {t : Gm} (hi lo : Nat → Int) (w : World) (h : GcG w ok [.slice A n c, .int .u8 q] t) (ho : OkT t) (ht : FtTabs w hi lo) (hl : t.np ≤ 1000000) :
    Calls Tryz.prog 88 #[.agg #[.slice A n c, .int .u8 q]] w fun e w' => e = .returned (.string (strOfNums (wktT hi lo t))) ∧ Below w.heap.size w w' := by
  have hb1 : Below w.heap.size w (w.alloc (.cells #[.slice A n c, .int .u8 q] 113)) := (Below.refl _ _).alloc (Nat.le_refl _) _
  have hcall := GcWkt_G hi lo (w.alloc (.cells #[.slice A n c, .int .u8 q] 113)) (GcG.keeps _ _ _ ok _ _ h (fun b _ hl => hb1.block b hl) (fun b h _ => h)) ho (.slice none 0 0) [] (World.ownsRow_nil _ _ _ _) (ht.below hb1) (fun _ _ e => by cases e) (fun _ _ _ e => by cases e) (by rw [List.length_nil]; omega)
  have HC := Lib.hid hcall
  have HB1 := Lib.hid hb1
  clear hcall hb1 h ho ht
  go_enter Tryz.func88, Tryz.ntmps88
  go_wp2_with fail
  refine HC.out.mono ?_
  rintro e w1 ⟨v1, rfl, h1⟩
  rw [List.nil_append] at h1
  have hcv := own_string (P := Tryz.prog) (src := 30) (dst := 9) Tryz.underlying30 Tryz.underlying5 Tryz.underlying9 h1.own_
  have HB := Lib.hid (HB1.out.trans ((below_bf0 h1).mono HB1.out.size))
  clear h1
  go_wp2
  go_ret
  exact ⟨rfl, HB.out⟩

set_option maxHeartbeats 1000000 in
set_option maxRecDepth 100000 in
theorem GeoTxt_Pt {ok : Nat → Prop} (x y z m : Nat) (q : Int) (f : Bool) {t : Gm} (hi lo : Nat → Int) (a : Nat) (W : World) (hb : Blk W a 52 #[.float .f64 x, .float .f64 y, .float .f64 z, .float .f64 m, .int .u8 q, .bool f]) (h : PtG W ok [.float .f64 x, .float .f64 y, .float .f64 z, .float .f64 m, .int .u8 q, .bool f] t) (ho : OkT t) (ht : FtTabs W hi lo) (hl : t.np ≤ 1000000) :
    Calls Tryz.prog 47 #[.agg #[.int .i64 1, .iface 116 (.pointer (some ⟨a, 0, none⟩))]] W fun e w' => e = .returned (.string (strOfNums (wktT hi lo t))) ∧ Below W.heap.size W w' := by
  have hb1 : Below W.heap.size W (W.alloc (.cells #[.int .i64 1, .iface 116 (.pointer (some ⟨a, 0, none⟩))] 72)) := (Below.refl _ _).alloc (Nat.le_refl _) _
  have HM := Lib.hid (MustPt x y z m q f a (W.alloc (.cells #[.int .i64 1, .iface 116 (.pointer (some ⟨a, 0, none⟩))] 72)) (hb.below hb1 hb.lt))
  have HB1 := Lib.hid hb1
  have HT := Lib.hid (ht.below hb1)
  have HO := Lib.hid ho
  have HH := Lib.hid (PtG.keeps _ _ _ (fun b => b < W.heap.size) _ _ h (fun b _ hl => hb1.block b hl) (fun b _ hl => hl))
  clear hb1 hb h ho ht
  go_enter Tryz.func47, Tryz.ntmps47
  go_wp2_with fail
  refine HM.out.mono ?_
  rintro e w1 ⟨rfl, b1⟩
  have HTX := Lib.hid (PtText_G hi lo w1 (PtG.keeps _ _ _ (fun _ => True) _ _ HH.out (fun b hb _ => b1.block b (Nat.lt_of_lt_of_le hb HB1.out.size)) (fun _ _ _ => trivial)) HO.out (HT.out.below b1) hl)
  have HB2 := Lib.hid (HB1.out.trans (b1.mono HB1.out.size))
  clear b1
  go_wp2_with fail
  refine HTX.out.mono ?_
  rintro e w2 ⟨rfl, b2⟩
  have HB3 := Lib.hid (HB2.out.trans (b2.mono HB2.out.size))
  clear b2
  go_wp2
  go_ret
  exact ⟨rfl, HB3.out⟩

set_option maxHeartbeats 1000000 in
set_option maxRecDepth 100000 in
theorem GeoTxt_Ls {ok : Nat → Prop} (q : Int) (A : Option Addr) (n c : Nat) {t : Gm} (hi lo : Nat → Int) (a : Nat) (W : World) (hb : Blk W a 93 #[.int .u8 q, .slice A n c]) (h : LsG W ok [.int .u8 q, .slice A n c] t) (ho : OkT t) (ht : FtTabs W hi lo) (hl : t.np ≤ 1000000) :
    Calls Tryz.prog 47 #[.agg #[.int .i64 2, .iface 117 (.pointer (some ⟨a, 0, none⟩))]] W fun e w' => e = .returned (.string (strOfNums (wktT hi lo t))) ∧ Below W.heap.size W w' := by
  have hb1 : Below W.heap.size W (W.alloc (.cells #[.int .i64 2, .iface 117 (.pointer (some ⟨a, 0, none⟩))] 72)) := (Below.refl _ _).alloc (Nat.le_refl _) _
  have HM := Lib.hid (MustLs q A n c a (W.alloc (.cells #[.int .i64 2, .iface 117 (.pointer (some ⟨a, 0, none⟩))] 72)) (hb.below hb1 hb.lt))
  have HB1 := Lib.hid hb1
  have HT := Lib.hid (ht.below hb1)
  have HO := Lib.hid ho
  have HH := Lib.hid (LsG.keeps _ _ _ (fun b => b < W.heap.size) _ _ h (fun b _ hl => hb1.block b hl) (fun b _ hl => hl))
  clear hb1 hb h ho ht
  go_enter Tryz.func47, Tryz.ntmps47
  go_wp2_with fail
  refine HM.out.mono ?_
  rintro e w1 ⟨rfl, b1⟩
  have HTX := Lib.hid (LsText_G hi lo w1 (LsG.keeps _ _ _ (fun _ => True) _ _ HH.out (fun b hb _ => b1.block b (Nat.lt_of_lt_of_le hb HB1.out.size)) (fun _ _ _ => trivial)) HO.out (HT.out.below b1) hl)
  have HB2 := Lib.hid (HB1.out.trans (b1.mono HB1.out.size))
  clear b1
  go_wp2_with fail
  refine HTX.out.mono ?_
  rintro e w2 ⟨rfl, b2⟩
  have HB3 := Lib.hid (HB2.out.trans (b2.mono HB2.out.size))
  clear b2
  go_wp2
  go_ret
  exact ⟨rfl, HB3.out⟩

set_option maxHeartbeats 1000000 in
set_option maxRecDepth 100000 in
theorem GeoTxt_Pg {ok : Nat → Prop} (A : Option Addr) (n c : Nat) (q : Int) {t : Gm} (hi lo : Nat → Int) (a : Nat) (W : World) (hb : Blk W a 63 #[.slice A n c, .int .u8 q]) (h : PgG W ok [.slice A n c, .int .u8 q] t) (ho : OkT t) (ht : FtTabs W hi lo) (hl : t.np ≤ 1000000) :
    Calls Tryz.prog 47 #[.agg #[.int .i64 3, .iface 118 (.pointer (some ⟨a, 0, none⟩))]] W fun e w' => e = .returned (.string (strOfNums (wktT hi lo t))) ∧ Below W.heap.size W w' := by
  have hb1 : Below W.heap.size W (W.alloc (.cells #[.int .i64 3, .iface 118 (.pointer (some ⟨a, 0, none⟩))] 72)) := (Below.refl _ _).alloc (Nat.le_refl _) _
  have HM := Lib.hid (MustPg A n c q a (W.alloc (.cells #[.int .i64 3, .iface 118 (.pointer (some ⟨a, 0, none⟩))] 72)) (hb.below hb1 hb.lt))
  have HB1 := Lib.hid hb1
  have HT := Lib.hid (ht.below hb1)
  have HO := Lib.hid ho
  have HH := Lib.hid (PgG.keeps _ _ _ (fun b => b < W.heap.size) _ _ h (fun b _ hl => hb1.block b hl) (fun b _ hl => hl))
  clear hb1 hb h ho ht
  go_enter Tryz.func47, Tryz.ntmps47
  go_wp2_with fail
  refine HM.out.mono ?_
  rintro e w1 ⟨rfl, b1⟩
  have HTX := Lib.hid (PgText_G hi lo w1 (PgG.keeps _ _ _ (fun _ => True) _ _ HH.out (fun b hb _ => b1.block b (Nat.lt_of_lt_of_le hb HB1.out.size)) (fun _ _ _ => trivial)) HO.out (HT.out.below b1) hl)
  have HB2 := Lib.hid (HB1.out.trans (b1.mono HB1.out.size))
  clear b1
  go_wp2_with fail
  refine HTX.out.mono ?_
  rintro e w2 ⟨rfl, b2⟩
  have HB3 := Lib.hid (HB2.out.trans (b2.mono HB2.out.size))
  clear b2
  go_wp2
  go_ret
  exact ⟨rfl, HB3.out⟩

set_option maxHeartbeats 1000000 in
set_option maxRecDepth 100000 in
theorem GeoTxt_Mp {ok : Nat → Prop} (A : Option Addr) (n c : Nat) (q : Int) {t : Gm} (hi lo : Nat → Int) (a : Nat) (W : World) (hb : Blk W a 105 #[.slice A n c, .int .u8 q]) (h : MpG W ok [.slice A n c, .int .u8 q] t) (ho : OkT t) (ht : FtTabs W hi lo) (hl : t.np ≤ 1000000) :
    Calls Tryz.prog 47 #[.agg #[.int .i64 4, .iface 119 (.pointer (some ⟨a, 0, none⟩))]] W fun e w' => e = .returned (.string (strOfNums (wktT hi lo t))) ∧ Below W.heap.size W w' := by
  have hb1 : Below W.heap.size W (W.alloc (.cells #[.int .i64 4, .iface 119 (.pointer (some ⟨a, 0, none⟩))] 72)) := (Below.refl _ _).alloc (Nat.le_refl _) _
  have HM := Lib.hid (MustMp A n c q a (W.alloc (.cells #[.int .i64 4, .iface 119 (.pointer (some ⟨a, 0, none⟩))] 72)) (hb.below hb1 hb.lt))
  have HB1 := Lib.hid hb1
  have HT := Lib.hid (ht.below hb1)
  have HO := Lib.hid ho
  have HH := Lib.hid (MpG.keeps _ _ _ (fun b => b < W.heap.size) _ _ h (fun b _ hl => hb1.block b hl) (fun b _ hl => hl))
  clear hb1 hb h ho ht
  go_enter Tryz.func47, Tryz.ntmps47
  go_wp2_with fail
  refine HM.out.mono ?_
  rintro e w1 ⟨rfl, b1⟩
  have HTX := Lib.hid (MpText_G hi lo w1 (MpG.keeps _ _ _ (fun _ => True) _ _ HH.out (fun b hb _ => b1.block b (Nat.lt_of_lt_of_le hb HB1.out.size)) (fun _ _ _ => trivial)) HO.out (HT.out.below b1) hl)
  have HB2 := Lib.hid (HB1.out.trans (b1.mono HB1.out.size))
  clear b1
  go_wp2_with fail
  refine HTX.out.mono ?_
  rintro e w2 ⟨rfl, b2⟩
  have HB3 := Lib.hid (HB2.out.trans (b2.mono HB2.out.size))
  clear b2
  go_wp2
  go_ret
  exact ⟨rfl, HB3.out⟩

set_option maxHeartbeats 1000000 in
set_option maxRecDepth 100000 in
theorem GeoTxt_Ml {ok : Nat → Prop} (A : Option Addr) (n c : Nat) (q : Int) {t : Gm} (hi lo : Nat → Int) (a : Nat) (W : World) (hb : Blk W a 67 #[.slice A n c, .int .u8 q]) (h : MlG W ok [.slice A n c, .int .u8 q] t) (ho : OkT t) (ht : FtTabs W hi lo) (hl : t.np ≤ 1000000) :
    Calls Tryz.prog 47 #[.agg #[.int .i64 5, .iface 120 (.pointer (some ⟨a, 0, none⟩))]] W fun e w' => e = .returned (.string (strOfNums (wktT hi lo t))) ∧ Below W.heap.size W w' := by
  have hb1 : Below W.heap.size W (W.alloc (.cells #[.int .i64 5, .iface 120 (.pointer (some ⟨a, 0, none⟩))] 72)) := (Below.refl _ _).alloc (Nat.le_refl _) _
  have HM := Lib.hid (MustMl A n c q a (W.alloc (.cells #[.int .i64 5, .iface 120 (.pointer (some ⟨a, 0, none⟩))] 72)) (hb.below hb1 hb.lt))
  have HB1 := Lib.hid hb1
  have HT := Lib.hid (ht.below hb1)
  have HO := Lib.hid ho
  have HH := Lib.hid (MlG.keeps _ _ _ (fun b => b < W.heap.size) _ _ h (fun b _ hl => hb1.block b hl) (fun b _ hl => hl))
  clear hb1 hb h ho ht
  go_enter Tryz.func47, Tryz.ntmps47
  go_wp2_with fail
  refine HM.out.mono ?_
  rintro e w1 ⟨rfl, b1⟩
  have HTX := Lib.hid (MlText_G hi lo w1 (MlG.keeps _ _ _ (fun _ => True) _ _ HH.out (fun b hb _ => b1.block b (Nat.lt_of_lt_of_le hb HB1.out.size)) (fun _ _ _ => trivial)) HO.out (HT.out.below b1) hl)
  have HB2 := Lib.hid (HB1.out.trans (b1.mono HB1.out.size))
  clear b1
  go_wp2_with fail
  refine HTX.out.mono ?_
  rintro e w2 ⟨rfl, b2⟩
  have HB3 := Lib.hid (HB2.out.trans (b2.mono HB2.out.size))
  clear b2
  go_wp2
  go_ret
  exact ⟨rfl, HB3.out⟩

set_option maxHeartbeats 1000000 in
set_option maxRecDepth 100000 in
theorem GeoTxt_My {ok : Nat → Prop} (A : Option Addr) (n c : Nat) (q : Int) {t : Gm} (hi lo : Nat → Int) (a : Nat) (W : World) (hb : Blk W a 109 #[.slice A n c, .int .u8 q]) (h : MyG W ok [.slice A n c, .int .u8 q] t) (ho : OkT t) (ht : FtTabs W hi lo) (hl : t.np ≤ 1000000) :
    Calls Tryz.prog 47 #[.agg #[.int .i64 6, .iface 121 (.pointer (some ⟨a, 0, none⟩))]] W fun e w' => e = .returned (.string (strOfNums (wktT hi lo t))) ∧ Below W.heap.size W w' := by
  have hb1 : Below W.heap.size W (W.alloc (.cells #[.int .i64 6, .iface 121 (.pointer (some ⟨a, 0, none⟩))] 72)) := (Below.refl _ _).alloc (Nat.le_refl _) _
  have HM := Lib.hid (MustMy A n c q a (W.alloc (.cells #[.int .i64 6, .iface 121 (.pointer (some ⟨a, 0, none⟩))] 72)) (hb.below hb1 hb.lt))
  have HB1 := Lib.hid hb1
  have HT := Lib.hid (ht.below hb1)
  have HO := Lib.hid ho
  have HH := Lib.hid (MyG.keeps _ _ _ (fun b => b < W.heap.size) _ _ h (fun b _ hl => hb1.block b hl) (fun b _ hl => hl))
  clear hb1 hb h ho ht
  go_enter Tryz.func47, Tryz.ntmps47
  go_wp2_with fail
  refine HM.out.mono ?_
  rintro e w1 ⟨rfl, b1⟩
  have HTX := Lib.hid (MyText_G hi lo w1 (MyG.keeps _ _ _ (fun _ => True) _ _ HH.out (fun b hb _ => b1.block b (Nat.lt_of_lt_of_le hb HB1.out.size)) (fun _ _ _ => trivial)) HO.out (HT.out.below b1) hl)
  have HB2 := Lib.hid (HB1.out.trans (b1.mono HB1.out.size))
  clear b1
  go_wp2_with fail
  refine HTX.out.mono ?_
  rintro e w2 ⟨rfl, b2⟩
  have HB3 := Lib.hid (HB2.out.trans (b2.mono HB2.out.size))
  clear b2
  go_wp2
  go_ret
  exact ⟨rfl, HB3.out⟩

set_option maxHeartbeats 1000000 in
set_option maxRecDepth 100000 in
theorem GeoTxt_Gc {ok : Nat → Prop} (A : Option Addr) (n c : Nat) (q : Int) {t : Gm} (hi lo : Nat → Int) (a : Nat) (W : World) (hb : Blk W a 113 #[.slice A n c, .int .u8 q]) (h : GcG W ok [.slice A n c, .int .u8 q] t) (ho : OkT t) (ht : FtTabs W hi lo) (hl : t.np ≤ 1000000) :
    Calls Tryz.prog 47 #[.agg #[.int .i64 0, .iface 115 (.pointer (some ⟨a, 0, none⟩))]] W fun e w' => e = .returned (.string (strOfNums (wktT hi lo t))) ∧ Below W.heap.size W w' := by
  have hb1 : Below W.heap.size W (W.alloc (.cells #[.int .i64 0, .iface 115 (.pointer (some ⟨a, 0, none⟩))] 72)) := (Below.refl _ _).alloc (Nat.le_refl _) _
  have HM := Lib.hid (MustGc A n c q a (W.alloc (.cells #[.int .i64 0, .iface 115 (.pointer (some ⟨a, 0, none⟩))] 72)) (hb.below hb1 hb.lt))
  have HB1 := Lib.hid hb1
  have HT := Lib.hid (ht.below hb1)
  have HO := Lib.hid ho
  have HH := Lib.hid (GcG.keeps _ _ _ (fun b => b < W.heap.size) _ _ h (fun b _ hl => hb1.block b hl) (fun b _ hl => hl))
  clear hb1 hb h ho ht
  go_enter Tryz.func47, Tryz.ntmps47
  go_wp2_with fail
  refine HM.out.mono ?_
  rintro e w1 ⟨rfl, b1⟩
  have HTX := Lib.hid (GcText_G hi lo w1 (GcG.keeps _ _ _ (fun _ => True) _ _ HH.out (fun b hb _ => b1.block b (Nat.lt_of_lt_of_le hb HB1.out.size)) (fun _ _ _ => trivial)) HO.out (HT.out.below b1) hl)
  have HB2 := Lib.hid (HB1.out.trans (b1.mono HB1.out.size))
  clear b1
  go_wp2_with fail
  refine HTX.out.mono ?_
  rintro e w2 ⟨rfl, b2⟩
  have HB3 := Lib.hid (HB2.out.trans (b2.mono HB2.out.size))
  clear b2
  go_wp2
  go_ret
  exact ⟨rfl, HB3.out⟩

theorem GeoText_G {ok : Nat → Prop} {q : Int} {T a : Nat} {t : Gm} (hi lo : Nat → Int) (W : World) (h : GeoG W ok [.int .i64 q, .iface T (.pointer (some ⟨a, 0, none⟩))] t) (ho : OkT t) (ht : FtTabs W hi lo) (hl : t.np ≤ 1000000) :
    Calls Tryz.prog 47 #[.agg #[.int .i64 q, .iface T (.pointer (some ⟨a, 0, none⟩))]] W fun e w' => e = .returned (.string (strOfNums (wktT hi lo t))) ∧ Below W.heap.size W w' := by
  generalize hx : [Value.int .i64 q, .iface T (.pointer (some ⟨a, 0, none⟩))] = x at h
  cases h with
  | @leaf _ K ST PT a' cs _ hlf ha hb =>
    simp only [List.cons.injEq, Value.int.injEq, Value.iface.injEq, Value.pointer.injEq, Option.some.injEq, Addr.mk.injEq, and_true, true_and] at hx
    obtain ⟨rfl, rfl, rfl⟩ := hx
    rcases hlf with ⟨rfl, rfl, rfl, hr⟩ | ⟨rfl, rfl, rfl, hr⟩ | ⟨rfl, rfl, rfl, hr⟩ | ⟨rfl, rfl, rfl, hr⟩ | ⟨rfl, rfl, rfl, hr⟩ | ⟨rfl, rfl, rfl, hr⟩
    · obtain ⟨vx, vy, vz, vm, vq, vf, rfl, -⟩ := hr.shape
      exact GeoTxt_Pt vx vy vz vm vq vf hi lo _ W hb hr ho ht hl
    · obtain ⟨vq, vA, vn, vc, rfl, -⟩ := hr.shape
      exact GeoTxt_Ls vq vA vn vc hi lo _ W hb hr ho ht hl
    · obtain ⟨vA, vn, vc, vq, rfl, -⟩ := hr.shape
      exact GeoTxt_Pg vA vn vc vq hi lo _ W hb hr ho ht hl
    · obtain ⟨vA, vn, vc, vq, rfl, -⟩ := hr.shape
      exact GeoTxt_Mp vA vn vc vq hi lo _ W hb hr ho ht hl
    · obtain ⟨vA, vn, vc, vq, rfl, -⟩ := hr.shape
      exact GeoTxt_Ml vA vn vc vq hi lo _ W hb hr ho ht hl
    · obtain ⟨vA, vn, vc, vq, rfl, -⟩ := hr.shape
      exact GeoTxt_My vA vn vc vq hi lo _ W hb hr ho ht hl
  | @gc _ a' A n c q' ks css ha hb q0 q1 hl' hn how h2 h3 h4 h5 =>
    simp only [List.cons.injEq, Value.int.injEq, Value.iface.injEq, Value.pointer.injEq, Option.some.injEq, Addr.mk.injEq, and_true, true_and] at hx
    obtain ⟨rfl, rfl, rfl⟩ := hx
    exact GeoTxt_Gc A n c q' hi lo _ W hb (⟨A, n, c, q', ks, rfl, rfl, q0, q1, hl', hn, css, how, h2, h3, h4, h5⟩ : GcG W ok _ _) ho ht hl

end Go.Proofs.YtpbcfgehmalppaaGreatDoor

/- The thin package's texts of plain data of any kind. -/
namespace Go.Proofs.YtpbcfgehmalppaaGreatDoor
open Go.RowKit

attribute [local go_sem] run_store_float

set_option maxRecDepth 100000 in
theorem WriteWKT_G {w0 : World} {B : Nat} {v : Value} {t : Gm} (hi lo : Nat → Int) (h : GmAt w0 B v t) (hs : t.sz ≤ 100000) (W : World) (hb : Below B w0 W) (hB : B ≤ W.heap.size) (ht : FtTabs W hi lo) :
    Calls Tryz.prog 20 #[v] W fun e w' => e = .returned (.string (strOfNums (wktT hi lo (newT t)))) ∧ Below W.heap.size W w' := by
  have hok := (ok_newT t hs).2.2
  have hnp := np_newT t hs
  have hmk := fun o : Obj => geometry_G h hs (W.alloc o) (hb.alloc hB o) (by simp; omega)
  obtain ⟨k, d, A, K, n, m, c, c', rfl⟩ := h.vshape
  have hb1 : Below W.heap.size W (W.alloc (.cells #[.int .i64 k, .int .i64 d, .slice A n c, .slice K m c'] 25)) := (Below.refl _ _).alloc (Nat.le_refl _) _
  have HM := Lib.hid (hmk (.cells #[.int .i64 k, .int .i64 d, .slice A n c, .slice K m c'] 25))
  have HT := Lib.hid (ht.below hb1)
  have HB1 := Lib.hid hb1
  have HO := Lib.hid hok
  clear hmk h hb ht hb1 hok
  generalize newT t = T at *
  go_enter Tryz.func20, Tryz.ntmps20
  go_wp2_with fail
  refine HM.out.mono ?_
  rintro e w1 ⟨q, Ty, a, rfl, h1, b1⟩
  have HTX := Lib.hid (GeoText_G hi lo w1 h1 HO.out (HT.out.below b1) (by omega))
  have HB2 := Lib.hid (HB1.out.trans (b1.mono HB1.out.size))
  clear h1 b1
  go_wp2_with fail
  refine HTX.out.mono ?_
  rintro e w2 ⟨rfl, b2⟩
  have HB3 := Lib.hid (HB2.out.trans (b2.mono HB2.out.size))
  clear b2
  go_wp2
  go_ret
  exact ⟨rfl, HB3.out⟩

set_option maxRecDepth 100000 in
theorem CoordType_G {w0 : World} {B : Nat} {v : Value} {t : Gm} (h : GmAt w0 B v t) (hs : t.sz ≤ 100000) (W : World) (hb : Below B w0 W) (hB : B ≤ W.heap.size) :
    Calls Tryz.prog 22 #[v] W fun e w' => e = .returned (.int .i64 (newT t).d) ∧ Below W.heap.size W w' := by
  have hok := ok_newT t hs
  have hd0 := hok.1
  have hd1 := hok.2.1
  have hmk := fun o : Obj => geometry_G h hs (W.alloc o) (hb.alloc hB o) (by simp; omega)
  obtain ⟨k, d, A, K, n, m, c, c', rfl⟩ := h.vshape
  have hb1 : Below W.heap.size W (W.alloc (.cells #[.int .i64 k, .int .i64 d, .slice A n c, .slice K m c'] 25)) := (Below.refl _ _).alloc (Nat.le_refl _) _
  have HM := Lib.hid (hmk (.cells #[.int .i64 k, .int .i64 d, .slice A n c, .slice K m c'] 25))
  have HB1 := Lib.hid hb1
  clear hmk h hb hb1 hok
  generalize newT t = T at *
  go_enter Tryz.func22, Tryz.ntmps22
  go_wp2_with fail
  refine HM.out.mono ?_
  rintro e w1 ⟨q, Ty, a, rfl, h1, b1⟩
  have HCT := Lib.hid (GeoCT_G w1 h1)
  have HB2 := Lib.hid (HB1.out.trans (b1.mono HB1.out.size))
  clear h1 b1
  go_wp2_with fail
  refine HCT.out.mono ?_
  rintro e w2 ⟨rfl, b2⟩
  have HB3 := Lib.hid (HB2.out.trans (b2.mono HB2.out.size))
  clear b2
  go_wp2
  go_ret
  exact ⟨rfl, HB3.out⟩


/-- The text put behind what has been copied. -/
theorem append_end {W w1 wx W1 : World} {B q : Int} {Ty a nb : Nat} {T : Gm} {v1 : Value} {bs : List Int} (hi lo : Nat → Int) (h1 : GeoG w1 (fun b => W.heap.size + 1 ≤ b) [.int .i64 q, .iface Ty (.pointer (some ⟨a, 0, none⟩))] T)
    (hO : OkT T) (hT : FtTabs w1 hi lo) (h7 : 7 ≤ W.heap.size) (hb : Below W.heap.size W w1) (hx : Below w1.heap.size w1 wx) (hnp : bs.length + 200 + 10000 * T.np ≤ 60000000000000) (hnb : bs.length = nb)
    (ho : W1.ownsRow 0 5 1 v1 (0 + nb) ([] ++ bytesV bs)) (hg : wx.grownBy W1 (some w1.heap.size)) (hp : v1.ownBlock = some w1.heap.size ∨ v1.ownBlock = some wx.heap.size) :
    Calls Tryz.prog 46 #[.agg #[.int .i64 q, .iface Ty (.pointer (some ⟨a, 0, none⟩))], v1] W1 fun e w' => ∃ v', e = .returned v' ∧ Bf W w' none v' (bs ++ wktT hi lo T) := by
  rw [List.nil_append, Nat.zero_add, ← hnb] at ho
  have hbx : Below w1.heap.size w1 W1 := below_grownBy hx hx.size hg (fun b e => by cases e; exact Nat.le_refl _)
  have hW1 : Below W.heap.size W W1 := hb.trans (hbx.mono hb.size)
  have hge : ∀ b, v1.ownBlock = some b → w1.heap.size ≤ b := by
    intro b e
    rcases hp with hp | hp
    · rw [hp] at e; cases e; exact Nat.le_refl _
    · rw [hp] at e; cases e; exact hx.size
  have hsz := hb.size
  have hG : GeoG W1 (fun b => W.heap.size + 1 ≤ b ∧ b < w1.heap.size) [.int .i64 q, .iface Ty (.pointer (some ⟨a, 0, none⟩))] T :=
    GeoG.keeps _ _ _ _ _ _ h1 (fun b _ hl => hbx.block b hl) (fun b h hl => ⟨h, hl⟩)
  refine (GeoWkt_all hi lo T _ _ _ _ W1 hG hO v1 bs ho (hT.below hbx) (fun k hk e => by have := hge _ e; omega) (fun b h _ e => by have := hge _ e; omega) hnp).mono ?_
  rintro e w' ⟨v', rfl, hf⟩
  refine ⟨v', rfl, hf.own, ?_, ?_⟩
  · exact only_of_below (below_grownBy hW1 hW1.size hf.grown (fun b e => by have := hge _ e; omega)) none
  · have h2 := hbx.size
    rcases hf.place with e | ⟨g, e, hg⟩
    · rcases hp with hp | hp
      · exact .inr ⟨_, e.trans hp, by omega⟩
      · exact .inr ⟨_, e.trans hp, by have := hx.size; omega⟩
    · exact .inr ⟨g, e, by omega⟩

set_option maxHeartbeats 1000000 in
set_option maxRecDepth 100000 in
theorem AppendWKT_G {w0 : World} {B : Nat} {v : Value} {t : Gm} {Ab : Option Addr} {nb cb : Nat} {bs : List Int} (hi lo : Nat → Int) (h : GmAt w0 B v t) (hs : t.sz ≤ 100000) (hbs : Reads w0 B 1 Ab nb (bytesV bs)) (hnb : nb ≤ 100000) (W : World) (hb : Below B w0 W) (hB : B ≤ W.heap.size) (h7 : 7 ≤ W.heap.size) (ht : FtTabs W hi lo) :
    Calls Tryz.prog 19 #[.slice Ab nb cb, v] W fun e w' => ∃ v', e = .returned v' ∧ Bf W w' none v' (bs ++ wktT hi lo (newT t)) := by
  obtain ⟨i0, hi0, hz0, hz1, hz2⟩ := info_parts info_u8
  have hok := (ok_newT t hs).2.2
  have hnp := np_newT t hs
  have hlen : bs.length = nb := by have := hbs.1; rw [bytesV_length] at this; omega
  have hmk := fun o : Obj => geometry_G h hs (W.alloc o) (hb.alloc hB o) (by simp; omega)
  obtain ⟨k, d, A, K, n, m, c, c', rfl⟩ := h.vshape
  have hb1 : Below W.heap.size W (W.alloc (.cells #[.int .i64 k, .int .i64 d, .slice A n c, .slice K m c'] 25)) := (Below.refl _ _).alloc (Nat.le_refl _) _
  have HM := Lib.hid (hmk (.cells #[.int .i64 k, .int .i64 d, .slice A n c, .slice K m c'] 25))
  have HT := Lib.hid (ht.below hb1)
  have HB1 := Lib.hid hb1
  have HO := Lib.hid hok
  have HBS := Lib.hid hbs
  have HBL := Lib.hid hb
  have HLE := Lib.hid hlen
  clear hmk h hb ht hb1 hok hbs hlen
  generalize newT t = T at *
  go_enter Tryz.func19, Tryz.ntmps19
  go_wp2_with fail
  refine HM.out.mono ?_
  rintro e w1 ⟨q, Ty, a, rfl, h1, b1⟩
  rw [World.size_alloc] at h1
  have H1 := Lib.hid h1
  have HB2 := Lib.hid (HB1.out.trans (b1.mono HB1.out.size))
  have HT2 := Lib.hid (HT.out.below b1)
  have HR2 := Lib.hid ((HBS.out.below (HBL.out.trans (HB2.out.mono hB))).alloc (Nat.le_trans hB HB2.out.size) (.cells #[] 5))
  clear h1 b1
  go_wp2_with (at_builtin; refine wpList_append_any _ rfl _ _ _ rfl 0 5 i0 (.int .u8 0) 1 1 Tryz.underlying30 hi0 hz0 hz1 hz2 rfl (by decide) _ 0 [] rfl (World.ownsRow_made w1 #[] 0 (Nat.zero_le _) (by simp [maxLen]) rfl) B Ab nb cb (bytesV bs) rfl (by exact HR2.out) (bytesV_one bs) (by simp only [maxLen]; omega) (by omega) (Nat.zero_le _) ?_; intro v1 W1 ho hg hp; have HE := Lib.hid (append_end (B := 0) hi lo H1.out HO.out HT2.out h7 HB2.out ((Below.refl w1.heap.size w1).alloc (Nat.le_refl _) (.cells #[] 5)) (by have := HLE.out; omega) HLE.out ho hg hp); clear ho hg hp)
  refine HE.out.mono ?_
  rintro e w2 ⟨v', rfl, hf⟩
  have HF := Lib.hid hf
  clear hf
  go_wp2
  go_ret
  exact ⟨_, rfl, HF.out⟩

end Go.Proofs.YtpbcfgehmalppaaGreatDoor
