import Derived.Test.YtofdccmmagcamaaGreatDoorMhH
/- Geometries of parts: New brings the parts to the type that they have in common. -/
set_option maxHeartbeats 8000000
set_option linter.unusedSimpArgs false
set_option linter.unusedVariables false
namespace Go.Proofs.YtofdccmmagcamaaGreatDoor
open Go.RowKit Go.Proofs.YtofdccmmagcamaaGreatDoorW.PrintLast

attribute [local go_sem] run_store_float

set_option maxRecDepth 100000 in
theorem NewPolygon_G {ok : Nat → Prop} {A : Option Addr} {n c : Nat} {ts : List Gm} (W : World) (h : KRow LsG 89 2 W ok (.slice A n c) ts) (hrl : ts.length = n) (hok : ∀ t ∈ ts, OkT t) (hn : n ≤ 100000) (hn0 : 0 < n) :
    Calls Tryz.prog 52 #[.slice A n c] W fun e w' => ∃ (A' : Option Addr) (n' c' : Nat) (q' : Int), e = .returned (.agg #[.slice A' n' c', .int .u8 q']) ∧ PgG w' (fun b => ok b ∨ W.heap.size ≤ b) [.slice A' n' c', .int .u8 q'] (.mk 3 (ctF ts) [] (ts.map (forceT (ctF ts)))) ∧ Below W.heap.size W w' := by
  have hd : decide (0 < (n : Int)) = true := decide_eq_true (by omega)
  have H := Hd h
  have HRL := Hd hrl
  have HOK := Hd hok
  clear h hrl hok
  go_enter Tryz.func52, Tryz.ntmps52
  go_wp2_with fail
  have hb3 : Below W.heap.size W (W.alloc (.cells #[.slice none 0 0, .int .u8 0] 60)) := (Below.refl _ _).alloc (Nat.le_refl _) _
  have x3 := Blk.new W 60 #[.slice none 0 0, .int .u8 0]
  have hs3 : W.heap.size + 1 ≤ (W.alloc (.cells #[.slice none 0 0, .int .u8 0] 60)).heap.size := by simp
  generalize W.alloc (.cells #[.slice none 0 0, .int .u8 0] 60) = w3 at *
  have X3 := Hd x3
  have HB3 := Hd hb3
  clear x3 hb3
  go_loopw [3, 12] (fun u i wr => ∃ (k : Nat), k ≤ n ∧ i = .int .i64 k ∧ u = .int .u8 (ctF (ts.take k)) ∧ 0 ≤ ctF (ts.take k) ∧ ctF (ts.take k) ≤ 3 ∧ Blk wr W.heap.size 60 #[.slice none 0 0, .int .u8 0] ∧ Below W.heap.size W wr ∧ W.heap.size + 1 ≤ wr.heap.size) (fun _ i _ => n - (intOf i).toNat)
  case atStart => exact ⟨0, Nat.zero_le _, rfl, rfl, by show (0 : Int) ≤ 3; decide, by show (3 : Int) ≤ 3; decide, X3.out, HB3.out, hs3⟩
  case round =>
    obtain ⟨k, hk, rfl, rfl, t0, t1, x0, hbr, hsr⟩ := hrel
    by_cases hlt : k < n
    · obtain ⟨g, x, s, rfl, hgok, hr, hxl, hcl, hrs, hgl⟩ := row_at HRL.out H.out hlt
      replace hgl := hgl (by decide)
      obtain ⟨rq, rA, rn, rc, rfl, -⟩ := hrs.shape
      obtain ⟨s0, s1⟩ : 0 ≤ s.d ∧ s.d ≤ 3 := (HOK.out s (List.mem_of_getElem? hr)).dr
      have hct : ctF (ts.take (k + 1)) = dand (ctF (ts.take k)) s.d := by
        unfold ctF
        rw [List.take_add_one, hr, Option.toList_some, List.foldl_append]
        rfl
      obtain ⟨v0, v1⟩ := dand_range t0 t1 s0 s1
      have hdu := dand_u8 t0 t1 s0 s1
      have j0 := (hbr.cell (p := ⟨g, k * 2 + 0, none⟩) hgl).trans (hcl 0 _ rfl)
      have j1 := (hbr.cell (p := ⟨g, k * 2 + 1, none⟩) hgl).trans (hcl 1 _ rfl)
      rw [Nat.add_zero] at j0
      have hcall := LsCT_G (wr.alloc (.cells #[.int .u8 rq, .slice rA rn rc] 89)) (LsG.keeps _ _ _ (fun b => b < W.heap.size) _ _ hrs (fun b _ hl => (Below.heap_alloc wr _ b (by omega)).trans (hbr.block b hl)) (fun b _ hl => hl))
      generalize ctF (ts.take k) = ct at *
      have HCT := Hd hct
      have HDU := Hd hdu
      have HBR := Hd hbr
      have X0 := Hd x0
      have HCALL := Hd hcall
      clear hct hdu hbr x0 hr hcl hcall hrs
      generalize s.d = sq at *
      go_wp2_with fail
      refine HCALL.out.mono ?_
      rintro e w5 ⟨rfl, h5⟩
      have hb5 : Below wr.heap.size wr w5 := ((Below.refl _ _).alloc (Nat.le_refl _) _).trans (h5.mono (by simp))
      have HB5 := Hd hb5
      clear h5 hb5
      go_wp2
      go_roundw
      case rel =>
        refine ⟨k + 1, by omega, by go_num, by rw [HCT.out, ← HDU.out], by rw [HCT.out]; exact v0, by rw [HCT.out]; exact v1, X0.out.below HB5.out X0.out.lt, HBR.out.trans (HB5.out.mono HBR.out.size), by have := HB5.out.size; omega⟩
      case measure => simp [intOf]; omega
    · obtain rfl : n = k := by omega
      rw [List.take_of_length_le (by rw [HRL.out]; exact Nat.le_refl _)] at t0 t1
      rw [List.take_of_length_le (by rw [HRL.out]; exact Nat.le_refl _)]
      generalize hCT : ctF ts = ct at *
      have HC0 := Hd hCT
      clear hCT
      have HBR := Hd hbr
      have X0 := Hd x0
      clear hbr x0
      obtain ⟨css, r1, r2, r3, r4, r5⟩ := H.out
      rw [HRL.out] at r1
      have hrd : Reads wr W.heap.size 2 A n css.flatten := (Reads.of_own r1).below HBR.out
      have h1c : ∀ u ∈ css.flatten, u.oneCell' = true := one_cells (R := LsG) (fun w ok x t h => by obtain ⟨rq, rA, rn, rc, rfl, -⟩ := h.shape; simp [Value.oneCell']) r3 r5
      obtain ⟨i0, hi0, hz0, hz1, hz2⟩ := info_parts info_ls
      have HRD := Hd hrd
      have H1C := Hd h1c
      have R5 := Hd r5
      have R3 := Hd r3
      have R4 := Hd r4
      clear hrd h1c r1 r2 r3 r4 r5
      go_wp2_with (at_builtin; refine wpList_append_any _ rfl _ _ _ rfl 0 89 i0 (.agg #[.int .u8 0, .slice none 0 0]) 2 32 Tryz.underlying57 hi0 hz0 hz1 hz2 rfl (by decide) _ 0 [] rfl (World.ownsRow_nil _ _ _ _) W.heap.size A n c css.flatten rfl HRD.out H1C.out (by simp only [maxLen]; omega) (by omega) (Nat.zero_le _) ?_; intro v1 W1 ho hg hp; obtain ⟨c1, g1, rfl, hg1, ho1, hbw, x1⟩ := copied_row ho hg hp HBR.out HBR.out.size X0.out hn0 hsr; have HO := Hd ho1; have X1 := Hd x1; have HBW := Hd hbw; clear ho hg hp hbw x1 ho1)
      have hmid : MidG LsG 2 W1 (fun b => ((ok b ∧ b < W.heap.size) ∨ W.heap.size + 1 ≤ b) ∧ b ≠ g1) ct ts 0 css :=
        ⟨R3.out, R4.out, fun i x s hx hs => by
          rw [if_neg (by omega)]
          exact LsG.keeps _ _ _ _ _ _ (R5.out i x s hx hs) (fun b _ hl => HBW.out.block b hl) (fun b hb hl => ⟨.inl ⟨hb.1, hl⟩, by omega⟩)⟩
      have HMID := Hd hmid
      have hsz1 : g1 < W1.heap.size := (HO.out.lt g1 rfl).2
      clear hmid
      go_loopw [25] (fun i wr => ∃ (k : Nat) (cs : List (List Value)), k ≤ n ∧ i = .int .i64 k ∧ Blk wr W.heap.size 60 #[.slice none 0 0, .int .u8 0] ∧ wr.ownsRow 0 89 2 (.slice (some ⟨g1, 0, none⟩) n c1) n cs.flatten ∧ MidG LsG 2 wr (fun b => ((ok b ∧ b < W.heap.size) ∨ W.heap.size + 1 ≤ b) ∧ b ≠ g1) ct ts k cs ∧ Below W.heap.size W wr ∧ g1 < wr.heap.size) (fun i _ => n - (intOf i).toNat)
      case atStart => exact ⟨0, css, Nat.zero_le _, rfl, X1.out, HO.out, HMID.out, HBW.out, hsz1⟩
      case round =>
        obtain ⟨k, cs, hk, rfl, x0, ow, md, hbr, hsr2⟩ := hrel
        by_cases hlt : k < n
        · have hrk : ts[k]? = some (ts[k]'(by rw [HRL.out]; exact hlt)) := List.getElem?_eq_getElem _
          have hcl : k < cs.length := by rw [md.1, HRL.out]; exact hlt
          have hck : cs[k]? = some (cs[k]'hcl) := List.getElem?_eq_getElem _
          have hsm : (ts[k]'(by rw [HRL.out]; exact hlt)) ∈ ts := List.getElem_mem _
          generalize (ts[k]'(by rw [HRL.out]; exact hlt)) = s at hrk hsm
          generalize (cs[k]'hcl) = x at hck
          have hls := md.2.2 k x s hck hrk
          rw [if_neg (by omega)] at hls
          obtain ⟨rq, rA, rn, rc, rfl, -⟩ := hls.shape
          have ad : ∀ g j : Nat, (⟨g, 0, none⟩ : Addr).add j = ⟨g, j, none⟩ := fun g j => by unfold Addr.add; split <;> simp_all
          have k0 := ow.cells (g := g1) rfl (k * 2 + 0) (.int .u8 rq) (by rw [flat_at md.2.1 hck (by omega)]; rfl)
          have k1 := ow.cells (g := g1) rfl (k * 2 + 1) (.slice rA rn rc) (by rw [flat_at md.2.1 hck (by omega)]; rfl)
          rw [ad] at k0 k1
          rw [Nat.add_zero] at k0
          have hcall := LsForce_G ct t0 t1 wr hls (HOK.out s hsm)
          have HCALL := Hd hcall
          have OW := Hd ow
          have MD := Hd md
          have X0' := Hd x0
          have HBR2 := Hd hbr
          have HRK := Hd hrk
          clear hcall ow md x0 hbr hls hck hrk hsm
          go_wp2_with fail
          refine HCALL.out.mono ?_
          rintro e w5 ⟨yq, yA, yn, yc, rfl, h5, b5⟩
          have o5 : w5.ownsRow 0 89 2 (.slice (some ⟨g1, 0, none⟩) n c1) n cs.flatten := own_keep OW.out (fun b _ hb => b5.block b hb)
          have y0 := own_frozen o5 (g := g1) rfl (k * 2)
          have y1 := own_frozen o5 (g := g1) rfl (k * 2 + 1)
          have q0 := (b5.cell (p := ⟨g1, k * 2, none⟩) hsr2).trans k0
          have q1 := (b5.cell (p := ⟨g1, k * 2 + 1, none⟩) hsr2).trans k1
          have O5 := Hd o5
          have H5 := Hd h5
          have B5 := Hd b5
          clear o5 h5 b5 k0 k1
          go_wp2
          go_roundw
          case rel =>
            have hheap : ∀ b, b ≠ g1 → ((w5.setCell ⟨g1, k * 2, none⟩ (.int .u8 yq)).setCell ⟨g1, k * 2 + 1, none⟩ (.slice yA yn yc)).heap[b]? = w5.heap[b]? := fun b hb => by
              rw [Below.heap_setCell _ _ _ b hb, Below.heap_setCell _ _ _ b hb]
            have hfl : cs.flatten.length = n * 2 := OW.out.1
            have hs5 := B5.out.size
            refine ⟨k + 1, cs.set k [.int .u8 yq, .slice yA yn yc], by omega, by go_num, ((X0'.out.below B5.out X0'.out.lt).far (by show W.heap.size ≠ g1; omega) _).far (by show W.heap.size ≠ g1; omega) _, ?_, MidG.next (MidG.keep LsG.keeps MD.out (fun b hb hl => (hheap b hb.2).trans (B5.out.block b hl)) (fun b hb _ => hb)) HRK.out rfl (LsG.keeps _ _ _ _ _ _ H5.out (fun b hb _ => hheap b ?_) (fun b hb _ => ?_)), below_setCell' (below_setCell' (HBR2.out.trans (B5.out.mono HBR2.out.size)) (by show W.heap.size ≤ g1; omega) _) (by show W.heap.size ≤ g1; omega) _, by simp [World.setCell]; omega⟩
            · rw [flat_set2 MD.out.2.1 hcl]
              exact own_store (own_store O5.out rfl (by rw [hfl]; omega) _) rfl (by rw [List.length_set, hfl]; omega) _
            · rcases hb with h | h
              · exact h.2
              · omega
            · rcases hb with h | h
              · exact h
              · have := HBR2.out.size; exact ⟨.inr (by omega), by omega⟩
          case measure => simp [intOf]; omega
        · obtain rfl : n = k := by omega
          have c0 := x0.cell 0
          have c1' := x0.cell 1
          have z0 := x0.frozen 0
          have z1 := x0.frozen 1
          simp at c0 c1'
          have e0 : (wr.setCell ⟨W.heap.size, 0, none⟩ (.slice (some ⟨g1, 0, none⟩) n c1)).cell? ⟨W.heap.size, 0, none⟩ = some (.slice (some ⟨g1, 0, none⟩) n c1) := by simpa using (x0.set_ 0 (.slice (some ⟨g1, 0, none⟩) n c1)).cell 0
          have e1 : ((wr.setCell ⟨W.heap.size, 0, none⟩ (.slice (some ⟨g1, 0, none⟩) n c1)).setCell ⟨W.heap.size, 1, none⟩ (.int .u8 ct)).cell? ⟨W.heap.size, 1, none⟩ = some (.int .u8 ct) := by simpa using ((x0.set_ 0 (.slice (some ⟨g1, 0, none⟩) n c1)).set_ 1 (.int .u8 ct)).cell 1
          have hrow : KRow LsG 89 2 wr (fun b => (ok b ∧ b < W.heap.size) ∨ W.heap.size + 1 ≤ b) (.slice (some ⟨g1, 0, none⟩) n c1) (ts.map (forceT ct)) :=
            MidG.row LsG.keeps md HRL.out ow (fun b hb => hb) (.inr hg1)
          have ROW := Hd hrow
          have HBR2 := Hd hbr
          clear hrow hbr x0 ow md
          go_wp2
          refine bodyPost_ret (by simp [results, Tryz.results52, go_sem, e0, e1]; try rfl) rfl ?_
          rw [HC0.out]
          refine ⟨some ⟨g1, 0, none⟩, n, c1, ct, rfl, ⟨some ⟨g1, 0, none⟩, n, c1, ct, _, rfl, rfl, t0, t1, by rw [List.length_map, HRL.out], hn, KRow.keep LsG.keeps ROW.out (fun b hb _ => ?_) (fun b hb _ => ?_)⟩, ?_⟩
          · have hne : b ≠ W.heap.size := by rcases hb with h | h <;> omega
            rw [Below.heap_setCell _ _ _ b hne, Below.heap_setCell _ _ _ b hne]
          · rcases hb with h | h
            · exact .inl h.1
            · exact .inr (by omega)
          · exact below_setCell' (below_setCell' HBR2.out (Nat.le_refl _) _) (Nat.le_refl _) _

end Go.Proofs.YtofdccmmagcamaaGreatDoor

/- Geometries of parts: New brings the parts to the type that they have in common. -/
set_option maxHeartbeats 8000000
set_option linter.unusedSimpArgs false
set_option linter.unusedVariables false
namespace Go.Proofs.YtofdccmmagcamaaGreatDoor
open Go.RowKit Go.Proofs.YtofdccmmagcamaaGreatDoorW.PrintLast

attribute [local go_sem] run_store_float

set_option maxRecDepth 100000 in
theorem NewMultiLineString_G {ok : Nat → Prop} {A : Option Addr} {n c : Nat} {ts : List Gm} (W : World) (h : KRow LsG 89 2 W ok (.slice A n c) ts) (hrl : ts.length = n) (hok : ∀ t ∈ ts, OkT t) (hn : n ≤ 100000) (hn0 : 0 < n) :
    Calls Tryz.prog 129 #[.slice A n c] W fun e w' => ∃ (A' : Option Addr) (n' c' : Nat) (q' : Int), e = .returned (.agg #[.slice A' n' c', .int .u8 q']) ∧ MlG w' (fun b => ok b ∨ W.heap.size ≤ b) [.slice A' n' c', .int .u8 q'] (.mk 5 (ctF ts) [] (ts.map (forceT (ctF ts)))) ∧ Below W.heap.size W w' := by
  have hd : ((n : Int) == 0) = false := by rw [beq_eq_false_iff_ne]; omega
  have H := Hd h
  have HRL := Hd hrl
  have HOK := Hd hok
  clear h hrl hok
  go_enter Tryz.func129, Tryz.ntmps129
  go_wp2_with fail
  have hb3 : Below W.heap.size W (W.alloc (.cells #[.slice none 0 0, .int .u8 0] 117)) := (Below.refl _ _).alloc (Nat.le_refl _) _
  have x3 := Blk.new W 117 #[.slice none 0 0, .int .u8 0]
  have hs3 : W.heap.size + 1 ≤ (W.alloc (.cells #[.slice none 0 0, .int .u8 0] 117)).heap.size := by simp
  generalize W.alloc (.cells #[.slice none 0 0, .int .u8 0] 117) = w3 at *
  have X3 := Hd x3
  have HB3 := Hd hb3
  clear x3 hb3
  go_loopw [3, 13] (fun u i wr => ∃ (k : Nat), k ≤ n ∧ i = .int .i64 k ∧ u = .int .u8 (ctF (ts.take k)) ∧ 0 ≤ ctF (ts.take k) ∧ ctF (ts.take k) ≤ 3 ∧ Blk wr W.heap.size 117 #[.slice none 0 0, .int .u8 0] ∧ Below W.heap.size W wr ∧ W.heap.size + 1 ≤ wr.heap.size) (fun _ i _ => n - (intOf i).toNat)
  case atStart => exact ⟨0, Nat.zero_le _, rfl, rfl, by show (0 : Int) ≤ 3; decide, by show (3 : Int) ≤ 3; decide, X3.out, HB3.out, hs3⟩
  case round =>
    obtain ⟨k, hk, rfl, rfl, t0, t1, x0, hbr, hsr⟩ := hrel
    by_cases hlt : k < n
    · obtain ⟨g, x, s, rfl, hgok, hr, hxl, hcl, hrs, hgl⟩ := row_at HRL.out H.out hlt
      replace hgl := hgl (by decide)
      obtain ⟨rq, rA, rn, rc, rfl, -⟩ := hrs.shape
      obtain ⟨s0, s1⟩ : 0 ≤ s.d ∧ s.d ≤ 3 := (HOK.out s (List.mem_of_getElem? hr)).dr
      have hct : ctF (ts.take (k + 1)) = dand (ctF (ts.take k)) s.d := by
        unfold ctF
        rw [List.take_add_one, hr, Option.toList_some, List.foldl_append]
        rfl
      obtain ⟨v0, v1⟩ := dand_range t0 t1 s0 s1
      have hdu := dand_u8 t0 t1 s0 s1
      have j0 := (hbr.cell (p := ⟨g, k * 2 + 0, none⟩) hgl).trans (hcl 0 _ rfl)
      have j1 := (hbr.cell (p := ⟨g, k * 2 + 1, none⟩) hgl).trans (hcl 1 _ rfl)
      rw [Nat.add_zero] at j0
      have hcall := LsCT_G (wr.alloc (.cells #[.int .u8 rq, .slice rA rn rc] 89)) (LsG.keeps _ _ _ (fun b => b < W.heap.size) _ _ hrs (fun b _ hl => (Below.heap_alloc wr _ b (by omega)).trans (hbr.block b hl)) (fun b _ hl => hl))
      generalize ctF (ts.take k) = ct at *
      have HCT := Hd hct
      have HDU := Hd hdu
      have HBR := Hd hbr
      have X0 := Hd x0
      have HCALL := Hd hcall
      clear hct hdu hbr x0 hr hcl hcall hrs
      generalize s.d = sq at *
      go_wp2_with fail
      refine HCALL.out.mono ?_
      rintro e w5 ⟨rfl, h5⟩
      have hb5 : Below wr.heap.size wr w5 := ((Below.refl _ _).alloc (Nat.le_refl _) _).trans (h5.mono (by simp))
      have HB5 := Hd hb5
      clear h5 hb5
      go_wp2
      go_roundw
      case rel =>
        refine ⟨k + 1, by omega, by go_num, by rw [HCT.out, ← HDU.out], by rw [HCT.out]; exact v0, by rw [HCT.out]; exact v1, X0.out.below HB5.out X0.out.lt, HBR.out.trans (HB5.out.mono HBR.out.size), by have := HB5.out.size; omega⟩
      case measure => simp [intOf]; omega
    · obtain rfl : n = k := by omega
      rw [List.take_of_length_le (by rw [HRL.out]; exact Nat.le_refl _)] at t0 t1
      rw [List.take_of_length_le (by rw [HRL.out]; exact Nat.le_refl _)]
      generalize hCT : ctF ts = ct at *
      have HC0 := Hd hCT
      clear hCT
      have HBR := Hd hbr
      have X0 := Hd x0
      clear hbr x0
      obtain ⟨css, r1, r2, r3, r4, r5⟩ := H.out
      rw [HRL.out] at r1
      have hrd : Reads wr W.heap.size 2 A n css.flatten := (Reads.of_own r1).below HBR.out
      have h1c : ∀ u ∈ css.flatten, u.oneCell' = true := one_cells (R := LsG) (fun w ok x t h => by obtain ⟨rq, rA, rn, rc, rfl, -⟩ := h.shape; simp [Value.oneCell']) r3 r5
      obtain ⟨i0, hi0, hz0, hz1, hz2⟩ := info_parts info_ls
      have HRD := Hd hrd
      have H1C := Hd h1c
      have R5 := Hd r5
      have R3 := Hd r3
      have R4 := Hd r4
      clear hrd h1c r1 r2 r3 r4 r5
      go_wp2_with (at_builtin; refine wpList_append_any _ rfl _ _ _ rfl 0 89 i0 (.agg #[.int .u8 0, .slice none 0 0]) 2 32 Tryz.underlying57 hi0 hz0 hz1 hz2 rfl (by decide) _ 0 [] rfl (World.ownsRow_nil _ _ _ _) W.heap.size A n c css.flatten rfl HRD.out H1C.out (by simp only [maxLen]; omega) (by omega) (Nat.zero_le _) ?_; intro v1 W1 ho hg hp; obtain ⟨c1, g1, rfl, hg1, ho1, hbw, x1⟩ := copied_row ho hg hp HBR.out HBR.out.size X0.out hn0 hsr; have HO := Hd ho1; have X1 := Hd x1; have HBW := Hd hbw; clear ho hg hp hbw x1 ho1)
      have hmid : MidG LsG 2 W1 (fun b => ((ok b ∧ b < W.heap.size) ∨ W.heap.size + 1 ≤ b) ∧ b ≠ g1) ct ts 0 css :=
        ⟨R3.out, R4.out, fun i x s hx hs => by
          rw [if_neg (by omega)]
          exact LsG.keeps _ _ _ _ _ _ (R5.out i x s hx hs) (fun b _ hl => HBW.out.block b hl) (fun b hb hl => ⟨.inl ⟨hb.1, hl⟩, by omega⟩)⟩
      have HMID := Hd hmid
      have hsz1 : g1 < W1.heap.size := (HO.out.lt g1 rfl).2
      clear hmid
      go_loopw [26] (fun i wr => ∃ (k : Nat) (cs : List (List Value)), k ≤ n ∧ i = .int .i64 k ∧ Blk wr W.heap.size 117 #[.slice none 0 0, .int .u8 0] ∧ wr.ownsRow 0 89 2 (.slice (some ⟨g1, 0, none⟩) n c1) n cs.flatten ∧ MidG LsG 2 wr (fun b => ((ok b ∧ b < W.heap.size) ∨ W.heap.size + 1 ≤ b) ∧ b ≠ g1) ct ts k cs ∧ Below W.heap.size W wr ∧ g1 < wr.heap.size) (fun i _ => n - (intOf i).toNat)
      case atStart => exact ⟨0, css, Nat.zero_le _, rfl, X1.out, HO.out, HMID.out, HBW.out, hsz1⟩
      case round =>
        obtain ⟨k, cs, hk, rfl, x0, ow, md, hbr, hsr2⟩ := hrel
        by_cases hlt : k < n
        · have hrk : ts[k]? = some (ts[k]'(by rw [HRL.out]; exact hlt)) := List.getElem?_eq_getElem _
          have hcl : k < cs.length := by rw [md.1, HRL.out]; exact hlt
          have hck : cs[k]? = some (cs[k]'hcl) := List.getElem?_eq_getElem _
          have hsm : (ts[k]'(by rw [HRL.out]; exact hlt)) ∈ ts := List.getElem_mem _
          generalize (ts[k]'(by rw [HRL.out]; exact hlt)) = s at hrk hsm
          generalize (cs[k]'hcl) = x at hck
          have hls := md.2.2 k x s hck hrk
          rw [if_neg (by omega)] at hls
          obtain ⟨rq, rA, rn, rc, rfl, -⟩ := hls.shape
          have ad : ∀ g j : Nat, (⟨g, 0, none⟩ : Addr).add j = ⟨g, j, none⟩ := fun g j => by unfold Addr.add; split <;> simp_all
          have k0 := ow.cells (g := g1) rfl (k * 2 + 0) (.int .u8 rq) (by rw [flat_at md.2.1 hck (by omega)]; rfl)
          have k1 := ow.cells (g := g1) rfl (k * 2 + 1) (.slice rA rn rc) (by rw [flat_at md.2.1 hck (by omega)]; rfl)
          rw [ad] at k0 k1
          rw [Nat.add_zero] at k0
          have hcall := LsForce_G ct t0 t1 wr hls (HOK.out s hsm)
          have HCALL := Hd hcall
          have OW := Hd ow
          have MD := Hd md
          have X0' := Hd x0
          have HBR2 := Hd hbr
          have HRK := Hd hrk
          clear hcall ow md x0 hbr hls hck hrk hsm
          go_wp2_with fail
          refine HCALL.out.mono ?_
          rintro e w5 ⟨yq, yA, yn, yc, rfl, h5, b5⟩
          have o5 : w5.ownsRow 0 89 2 (.slice (some ⟨g1, 0, none⟩) n c1) n cs.flatten := own_keep OW.out (fun b _ hb => b5.block b hb)
          have y0 := own_frozen o5 (g := g1) rfl (k * 2)
          have y1 := own_frozen o5 (g := g1) rfl (k * 2 + 1)
          have q0 := (b5.cell (p := ⟨g1, k * 2, none⟩) hsr2).trans k0
          have q1 := (b5.cell (p := ⟨g1, k * 2 + 1, none⟩) hsr2).trans k1
          have O5 := Hd o5
          have H5 := Hd h5
          have B5 := Hd b5
          clear o5 h5 b5 k0 k1
          go_wp2
          go_roundw
          case rel =>
            have hheap : ∀ b, b ≠ g1 → ((w5.setCell ⟨g1, k * 2, none⟩ (.int .u8 yq)).setCell ⟨g1, k * 2 + 1, none⟩ (.slice yA yn yc)).heap[b]? = w5.heap[b]? := fun b hb => by
              rw [Below.heap_setCell _ _ _ b hb, Below.heap_setCell _ _ _ b hb]
            have hfl : cs.flatten.length = n * 2 := OW.out.1
            have hs5 := B5.out.size
            refine ⟨k + 1, cs.set k [.int .u8 yq, .slice yA yn yc], by omega, by go_num, ((X0'.out.below B5.out X0'.out.lt).far (by show W.heap.size ≠ g1; omega) _).far (by show W.heap.size ≠ g1; omega) _, ?_, MidG.next (MidG.keep LsG.keeps MD.out (fun b hb hl => (hheap b hb.2).trans (B5.out.block b hl)) (fun b hb _ => hb)) HRK.out rfl (LsG.keeps _ _ _ _ _ _ H5.out (fun b hb _ => hheap b ?_) (fun b hb _ => ?_)), below_setCell' (below_setCell' (HBR2.out.trans (B5.out.mono HBR2.out.size)) (by show W.heap.size ≤ g1; omega) _) (by show W.heap.size ≤ g1; omega) _, by simp [World.setCell]; omega⟩
            · rw [flat_set2 MD.out.2.1 hcl]
              exact own_store (own_store O5.out rfl (by rw [hfl]; omega) _) rfl (by rw [List.length_set, hfl]; omega) _
            · rcases hb with h | h
              · exact h.2
              · omega
            · rcases hb with h | h
              · exact h
              · have := HBR2.out.size; exact ⟨.inr (by omega), by omega⟩
          case measure => simp [intOf]; omega
        · obtain rfl : n = k := by omega
          have c0 := x0.cell 0
          have c1' := x0.cell 1
          have z0 := x0.frozen 0
          have z1 := x0.frozen 1
          simp at c0 c1'
          have e0 : (wr.setCell ⟨W.heap.size, 0, none⟩ (.slice (some ⟨g1, 0, none⟩) n c1)).cell? ⟨W.heap.size, 0, none⟩ = some (.slice (some ⟨g1, 0, none⟩) n c1) := by simpa using (x0.set_ 0 (.slice (some ⟨g1, 0, none⟩) n c1)).cell 0
          have e1 : ((wr.setCell ⟨W.heap.size, 0, none⟩ (.slice (some ⟨g1, 0, none⟩) n c1)).setCell ⟨W.heap.size, 1, none⟩ (.int .u8 ct)).cell? ⟨W.heap.size, 1, none⟩ = some (.int .u8 ct) := by simpa using ((x0.set_ 0 (.slice (some ⟨g1, 0, none⟩) n c1)).set_ 1 (.int .u8 ct)).cell 1
          have hrow : KRow LsG 89 2 wr (fun b => (ok b ∧ b < W.heap.size) ∨ W.heap.size + 1 ≤ b) (.slice (some ⟨g1, 0, none⟩) n c1) (ts.map (forceT ct)) :=
            MidG.row LsG.keeps md HRL.out ow (fun b hb => hb) (.inr hg1)
          have ROW := Hd hrow
          have HBR2 := Hd hbr
          clear hrow hbr x0 ow md
          go_wp2
          refine bodyPost_ret (by simp [results, Tryz.results129, go_sem, e0, e1]; try rfl) rfl ?_
          rw [HC0.out]
          refine ⟨some ⟨g1, 0, none⟩, n, c1, ct, rfl, ⟨some ⟨g1, 0, none⟩, n, c1, ct, _, rfl, rfl, t0, t1, by rw [List.length_map, HRL.out], hn, KRow.keep LsG.keeps ROW.out (fun b hb _ => ?_) (fun b hb _ => ?_)⟩, ?_⟩
          · have hne : b ≠ W.heap.size := by rcases hb with h | h <;> omega
            rw [Below.heap_setCell _ _ _ b hne, Below.heap_setCell _ _ _ b hne]
          · rcases hb with h | h
            · exact .inl h.1
            · exact .inr (by omega)
          · exact below_setCell' (below_setCell' HBR2.out (Nat.le_refl _) _) (Nat.le_refl _) _

end Go.Proofs.YtofdccmmagcamaaGreatDoor
