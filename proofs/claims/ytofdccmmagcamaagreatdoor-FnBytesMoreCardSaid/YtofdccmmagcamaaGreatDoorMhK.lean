import Derived.Test.YtofdccmmagcamaaGreatDoorMhH
import Derived.Test.YtofdccmmagcamaaGreatDoorMhJ
/- Geometries of parts: their type of coordinates. -/
set_option maxHeartbeats 8000000
set_option linter.unusedSimpArgs false
set_option linter.unusedVariables false
namespace Go.Proofs.YtofdccmmagcamaaGreatDoor
open Go.RowKit Go.Proofs.YtofdccmmagcamaaGreatDoorW.PrintLast

attribute [local go_sem] run_store_float

abbrev MyG := RowG PgG 60 2 6
theorem MyG.keeps : Keeps MyG := RowG.keeps PgG.keeps _ _ _
set_option maxRecDepth 100000 in
theorem PgCT (A : Option Addr) (n c : Nat) (q : Int) (w : World) : Calls Tryz.prog 96 #[.agg #[.slice A n c, .int .u8 q]] w fun e w' => e = .returned (.int .u8 q) ∧ Below w.heap.size w w' := by
  go_enter Tryz.func96, Tryz.ntmps96
  go_wp2
  go_ret
  exact ⟨rfl, (Below.refl _ _).alloc (Nat.le_refl _) _⟩
theorem PgCT_G {ok : Nat → Prop} {A : Option Addr} {n c : Nat} {q : Int} {t : Gm} (W : World) (h : PgG W ok [.slice A n c, .int .u8 q] t) :
    Calls Tryz.prog 96 #[.agg #[.slice A n c, .int .u8 q]] W fun e w' => e = .returned (.int .u8 t.d) ∧ Below W.heap.size W w' := by
  obtain ⟨A', n', c', q', e, hd, -⟩ := RowG.shape h
  simp only [List.cons.injEq, Value.int.injEq, and_true, true_and] at e
  rw [hd, ← e.2]
  exact PgCT A n c q W
theorem info_Pg : (Tryz.prog.info? 60).map (fun i => (i.zero, i.size, i.bytes)) = some (some (.agg #[.slice none 0 0, .int .u8 0]), 2, 32) := by kernel_rfl
theorem PgG.shape {w : World} {ok : Nat → Prop} {x : List Value} {t : Gm} (h : PgG w ok x t) : ∃ (A : Option Addr) (n c : Nat) (q : Int), x = [.slice A n c, .int .u8 q] ∧ t.d = q ∧ 0 ≤ q ∧ q ≤ 3 := RowG.shape h

set_option maxRecDepth 100000 in
theorem MlCT (A : Option Addr) (n c : Nat) (q : Int) (w : World) : Calls Tryz.prog 98 #[.agg #[.slice A n c, .int .u8 q]] w fun e w' => e = .returned (.int .u8 q) ∧ Below w.heap.size w w' := by
  go_enter Tryz.func98, Tryz.ntmps98
  go_wp2
  go_ret
  exact ⟨rfl, (Below.refl _ _).alloc (Nat.le_refl _) _⟩
theorem MlCT_G {ok : Nat → Prop} {A : Option Addr} {n c : Nat} {q : Int} {t : Gm} (W : World) (h : MlG W ok [.slice A n c, .int .u8 q] t) :
    Calls Tryz.prog 98 #[.agg #[.slice A n c, .int .u8 q]] W fun e w' => e = .returned (.int .u8 t.d) ∧ Below W.heap.size W w' := by
  obtain ⟨A', n', c', q', e, hd, -⟩ := RowG.shape h
  simp only [List.cons.injEq, Value.int.injEq, and_true, true_and] at e
  rw [hd, ← e.2]
  exact MlCT A n c q W
theorem MlG.shape {w : World} {ok : Nat → Prop} {x : List Value} {t : Gm} (h : MlG w ok x t) : ∃ (A : Option Addr) (n c : Nat) (q : Int), x = [.slice A n c, .int .u8 q] ∧ t.d = q ∧ 0 ≤ q ∧ q ≤ 3 := RowG.shape h

set_option maxRecDepth 100000 in
theorem MyCT (A : Option Addr) (n c : Nat) (q : Int) (w : World) : Calls Tryz.prog 99 #[.agg #[.slice A n c, .int .u8 q]] w fun e w' => e = .returned (.int .u8 q) ∧ Below w.heap.size w w' := by
  go_enter Tryz.func99, Tryz.ntmps99
  go_wp2
  go_ret
  exact ⟨rfl, (Below.refl _ _).alloc (Nat.le_refl _) _⟩
theorem MyCT_G {ok : Nat → Prop} {A : Option Addr} {n c : Nat} {q : Int} {t : Gm} (W : World) (h : MyG W ok [.slice A n c, .int .u8 q] t) :
    Calls Tryz.prog 99 #[.agg #[.slice A n c, .int .u8 q]] W fun e w' => e = .returned (.int .u8 t.d) ∧ Below W.heap.size W w' := by
  obtain ⟨A', n', c', q', e, hd, -⟩ := RowG.shape h
  simp only [List.cons.injEq, Value.int.injEq, and_true, true_and] at e
  rw [hd, ← e.2]
  exact MyCT A n c q W
theorem MyG.shape {w : World} {ok : Nat → Prop} {x : List Value} {t : Gm} (h : MyG w ok x t) : ∃ (A : Option Addr) (n c : Nat) (q : Int), x = [.slice A n c, .int .u8 q] ∧ t.d = q ∧ 0 ≤ q ∧ q ≤ 3 := RowG.shape h

end Go.Proofs.YtofdccmmagcamaaGreatDoor

/- Geometries of parts: New brings the parts to the type that they have in common. -/
set_option maxHeartbeats 8000000
set_option linter.unusedSimpArgs false
set_option linter.unusedVariables false
namespace Go.Proofs.YtofdccmmagcamaaGreatDoor
open Go.RowKit Go.Proofs.YtofdccmmagcamaaGreatDoorW.PrintLast

attribute [local go_sem] run_store_float

set_option maxRecDepth 100000 in
theorem NewMultiPolygon_G {ok : Nat → Prop} {A : Option Addr} {n c : Nat} {ts : List Gm} (W : World) (h : KRow PgG 60 2 W ok (.slice A n c) ts) (hrl : ts.length = n) (hok : ∀ t ∈ ts, OkT t) (hn : n ≤ 100000) (hn0 : 0 < n) :
    Calls Tryz.prog 131 #[.slice A n c] W fun e w' => ∃ (A' : Option Addr) (n' c' : Nat) (q' : Int), e = .returned (.agg #[.slice A' n' c', .int .u8 q']) ∧ MyG w' (fun b => ok b ∨ W.heap.size ≤ b) [.slice A' n' c', .int .u8 q'] (.mk 6 (ctF ts) [] (ts.map (forceT (ctF ts)))) ∧ Below W.heap.size W w' := by
  have hd : decide (0 < (n : Int)) = true := decide_eq_true (by omega)
  have H := Hd h
  have HRL := Hd hrl
  have HOK := Hd hok
  clear h hrl hok
  go_enter Tryz.func131, Tryz.ntmps131
  go_wp2_with fail
  have hb3 : Below W.heap.size W (W.alloc (.cells #[.slice none 0 0, .int .u8 0] 121)) := (Below.refl _ _).alloc (Nat.le_refl _) _
  have x3 := Blk.new W 121 #[.slice none 0 0, .int .u8 0]
  have hs3 : W.heap.size + 1 ≤ (W.alloc (.cells #[.slice none 0 0, .int .u8 0] 121)).heap.size := by simp
  generalize W.alloc (.cells #[.slice none 0 0, .int .u8 0] 121) = w3 at *
  have X3 := Hd x3
  have HB3 := Hd hb3
  clear x3 hb3
  go_loopw [3, 12] (fun u i wr => ∃ (k : Nat), k ≤ n ∧ i = .int .i64 k ∧ u = .int .u8 (ctF (ts.take k)) ∧ 0 ≤ ctF (ts.take k) ∧ ctF (ts.take k) ≤ 3 ∧ Blk wr W.heap.size 121 #[.slice none 0 0, .int .u8 0] ∧ Below W.heap.size W wr ∧ W.heap.size + 1 ≤ wr.heap.size) (fun _ i _ => n - (intOf i).toNat)
  case atStart => exact ⟨0, Nat.zero_le _, rfl, rfl, by show (0 : Int) ≤ 3; decide, by show (3 : Int) ≤ 3; decide, X3.out, HB3.out, hs3⟩
  case round =>
    obtain ⟨k, hk, rfl, rfl, t0, t1, x0, hbr, hsr⟩ := hrel
    by_cases hlt : k < n
    · obtain ⟨g, x, s, rfl, hgok, hr, hxl, hcl, hrs, hgl⟩ := row_at HRL.out H.out hlt
      replace hgl := hgl (by decide)
      obtain ⟨rA, rn, rc, rq, rfl, -⟩ := hrs.shape
      obtain ⟨s0, s1⟩ : 0 ≤ s.d ∧ s.d ≤ 3 := (HOK.out s (List.mem_of_getElem? hr)).dr
      have hct : ctF (ts.take (k + 1)) = dand (ctF (ts.take k)) s.d := by
        unfold ctF
        rw [List.take_add_one, hr, Option.toList_some, List.foldl_append]
        rfl
      obtain ⟨v0, v1⟩ := dand_range t0 t1 s0 s1
      have hdu := dand_u8 t0 t1 s0 s1
      have j0 := (hbr.cell (p := ⟨g, k * 2 + 0, none⟩) hgl).trans (hcl 0 _ rfl)
      have j1 := (hbr.cell (p := ⟨g, k * 2 + 1, none⟩) hgl).trans (hcl 1 _ rfl)
      rw [Nat.add_zero] at j0
      have hcall := PgCT_G (wr.alloc (.cells #[.slice rA rn rc, .int .u8 rq] 60)) (PgG.keeps _ _ _ (fun b => b < W.heap.size) _ _ hrs (fun b _ hl => (Below.heap_alloc wr _ b (by omega)).trans (hbr.block b hl)) (fun b _ hl => hl))
      generalize ctF (ts.take k) = ct at *
      have HCT := Hd hct
      have HDU := Hd hdu
      have HBR := Hd hbr
      have X0 := Hd x0
      have HCALL := Hd hcall
      clear hct hdu hbr x0 hr hcl hcall hrs
      generalize s.d = sq at *
      go_wp2_with fail
      refine HCALL.out.mono ?_
      rintro e w5 ⟨rfl, h5⟩
      have hb5 : Below wr.heap.size wr w5 := ((Below.refl _ _).alloc (Nat.le_refl _) _).trans (h5.mono (by simp))
      have HB5 := Hd hb5
      clear h5 hb5
      go_wp2
      go_roundw
      case rel =>
        refine ⟨k + 1, by omega, by go_num, by rw [HCT.out, ← HDU.out], by rw [HCT.out]; exact v0, by rw [HCT.out]; exact v1, X0.out.below HB5.out X0.out.lt, HBR.out.trans (HB5.out.mono HBR.out.size), by have := HB5.out.size; omega⟩
      case measure => simp [intOf]; omega
    · obtain rfl : n = k := by omega
      rw [List.take_of_length_le (by rw [HRL.out]; exact Nat.le_refl _)] at t0 t1
      rw [List.take_of_length_le (by rw [HRL.out]; exact Nat.le_refl _)]
      generalize hCT : ctF ts = ct at *
      have HC0 := Hd hCT
      clear hCT
      have HBR := Hd hbr
      have X0 := Hd x0
      clear hbr x0
      obtain ⟨css, r1, r2, r3, r4, r5⟩ := H.out
      rw [HRL.out] at r1
      have hrd : Reads wr W.heap.size 2 A n css.flatten := (Reads.of_own r1).below HBR.out
      have h1c : ∀ u ∈ css.flatten, u.oneCell' = true := one_cells (R := PgG) (fun w ok x t h => by obtain ⟨rA, rn, rc, rq, rfl, -⟩ := h.shape; simp [Value.oneCell']) r3 r5
      obtain ⟨i0, hi0, hz0, hz1, hz2⟩ := info_parts info_Pg
      have HRD := Hd hrd
      have H1C := Hd h1c
      have R5 := Hd r5
      have R3 := Hd r3
      have R4 := Hd r4
      clear hrd h1c r1 r2 r3 r4 r5
      go_wp2_with (at_builtin; refine wpList_append_any _ rfl _ _ _ rfl 0 60 i0 (.agg #[.slice none 0 0, .int .u8 0]) 2 32 Tryz.underlying119 hi0 hz0 hz1 hz2 rfl (by decide) _ 0 [] rfl (World.ownsRow_nil _ _ _ _) W.heap.size A n c css.flatten rfl HRD.out H1C.out (by simp only [maxLen]; omega) (by omega) (Nat.zero_le _) ?_; intro v1 W1 ho hg hp; obtain ⟨c1, g1, rfl, hg1, ho1, hbw, x1⟩ := copied_row ho hg hp HBR.out HBR.out.size X0.out hn0 hsr; have HO := Hd ho1; have X1 := Hd x1; have HBW := Hd hbw; clear ho hg hp hbw x1 ho1)
      have hmid : MidG PgG 2 W1 (fun b => ((ok b ∧ b < W.heap.size) ∨ W.heap.size + 1 ≤ b) ∧ b ≠ g1) ct ts 0 css :=
        ⟨R3.out, R4.out, fun i x s hx hs => by
          rw [if_neg (by omega)]
          exact PgG.keeps _ _ _ _ _ _ (R5.out i x s hx hs) (fun b _ hl => HBW.out.block b hl) (fun b hb hl => ⟨.inl ⟨hb.1, hl⟩, by omega⟩)⟩
      have HMID := Hd hmid
      have hsz1 : g1 < W1.heap.size := (HO.out.lt g1 rfl).2
      clear hmid
      go_loopw [25] (fun i wr => ∃ (k : Nat) (cs : List (List Value)), k ≤ n ∧ i = .int .i64 k ∧ Blk wr W.heap.size 121 #[.slice none 0 0, .int .u8 0] ∧ wr.ownsRow 0 60 2 (.slice (some ⟨g1, 0, none⟩) n c1) n cs.flatten ∧ MidG PgG 2 wr (fun b => ((ok b ∧ b < W.heap.size) ∨ W.heap.size + 1 ≤ b) ∧ b ≠ g1) ct ts k cs ∧ Below W.heap.size W wr ∧ g1 < wr.heap.size) (fun i _ => n - (intOf i).toNat)
      case atStart => exact ⟨0, css, Nat.zero_le _, rfl, X1.out, HO.out, HMID.out, HBW.out, hsz1⟩
      case round =>
        obtain ⟨k, cs, hk, rfl, x0, ow, md, hbr, hsr2⟩ := hrel
        by_cases hlt : k < n
        · have hrk : ts[k]? = some (ts[k]'(by rw [HRL.out]; exact hlt)) := List.getElem?_eq_getElem _
          have hcl : k < cs.length := by rw [md.1, HRL.out]; exact hlt
          have hck : cs[k]? = some (cs[k]'hcl) := List.getElem?_eq_getElem _
          have hsm : (ts[k]'(by rw [HRL.out]; exact hlt)) ∈ ts := List.getElem_mem _
          generalize (ts[k]'(by rw [HRL.out]; exact hlt)) = s at hrk hsm
          generalize (cs[k]'hcl) = x at hck
          have hls := md.2.2 k x s hck hrk
          rw [if_neg (by omega)] at hls
          obtain ⟨rA, rn, rc, rq, rfl, -⟩ := hls.shape
          have ad : ∀ g j : Nat, (⟨g, 0, none⟩ : Addr).add j = ⟨g, j, none⟩ := fun g j => by unfold Addr.add; split <;> simp_all
          have k0 := ow.cells (g := g1) rfl (k * 2 + 0) (.slice rA rn rc) (by rw [flat_at md.2.1 hck (by omega)]; rfl)
          have k1 := ow.cells (g := g1) rfl (k * 2 + 1) (.int .u8 rq) (by rw [flat_at md.2.1 hck (by omega)]; rfl)
          rw [ad] at k0 k1
          rw [Nat.add_zero] at k0
          have hcall := PgForce_G ct t0 t1 wr hls (HOK.out s hsm)
          have HCALL := Hd hcall
          have OW := Hd ow
          have MD := Hd md
          have X0' := Hd x0
          have HBR2 := Hd hbr
          have HRK := Hd hrk
          clear hcall ow md x0 hbr hls hck hrk hsm
          go_wp2_with fail
          refine HCALL.out.mono ?_
          rintro e w5 ⟨yA, yn, yc, yq, rfl, h5, b5⟩
          have o5 : w5.ownsRow 0 60 2 (.slice (some ⟨g1, 0, none⟩) n c1) n cs.flatten := own_keep OW.out (fun b _ hb => b5.block b hb)
          have y0 := own_frozen o5 (g := g1) rfl (k * 2)
          have y1 := own_frozen o5 (g := g1) rfl (k * 2 + 1)
          have q0 := (b5.cell (p := ⟨g1, k * 2, none⟩) hsr2).trans k0
          have q1 := (b5.cell (p := ⟨g1, k * 2 + 1, none⟩) hsr2).trans k1
          have O5 := Hd o5
          have H5 := Hd h5
          have B5 := Hd b5
          clear o5 h5 b5 k0 k1
          go_wp2
          go_roundw
          case rel =>
            have hheap : ∀ b, b ≠ g1 → ((w5.setCell ⟨g1, k * 2, none⟩ (.slice yA yn yc)).setCell ⟨g1, k * 2 + 1, none⟩ (.int .u8 yq)).heap[b]? = w5.heap[b]? := fun b hb => by
              rw [Below.heap_setCell _ _ _ b hb, Below.heap_setCell _ _ _ b hb]
            have hfl : cs.flatten.length = n * 2 := OW.out.1
            have hs5 := B5.out.size
            refine ⟨k + 1, cs.set k [.slice yA yn yc, .int .u8 yq], by omega, by go_num, ((X0'.out.below B5.out X0'.out.lt).far (by show W.heap.size ≠ g1; omega) _).far (by show W.heap.size ≠ g1; omega) _, ?_, MidG.next (MidG.keep PgG.keeps MD.out (fun b hb hl => (hheap b hb.2).trans (B5.out.block b hl)) (fun b hb _ => hb)) HRK.out rfl (PgG.keeps _ _ _ _ _ _ H5.out (fun b hb _ => hheap b ?_) (fun b hb _ => ?_)), below_setCell' (below_setCell' (HBR2.out.trans (B5.out.mono HBR2.out.size)) (by show W.heap.size ≤ g1; omega) _) (by show W.heap.size ≤ g1; omega) _, by simp [World.setCell]; omega⟩
            · rw [flat_set2 MD.out.2.1 hcl]
              exact own_store (own_store O5.out rfl (by rw [hfl]; omega) _) rfl (by rw [List.length_set, hfl]; omega) _
            · rcases hb with h | h
              · exact h.2
              · omega
            · rcases hb with h | h
              · exact h
              · have := HBR2.out.size; exact ⟨.inr (by omega), by omega⟩
          case measure => simp [intOf]; omega
        · obtain rfl : n = k := by omega
          have c0 := x0.cell 0
          have c1' := x0.cell 1
          have z0 := x0.frozen 0
          have z1 := x0.frozen 1
          simp at c0 c1'
          have e0 : (wr.setCell ⟨W.heap.size, 0, none⟩ (.slice (some ⟨g1, 0, none⟩) n c1)).cell? ⟨W.heap.size, 0, none⟩ = some (.slice (some ⟨g1, 0, none⟩) n c1) := by simpa using (x0.set_ 0 (.slice (some ⟨g1, 0, none⟩) n c1)).cell 0
          have e1 : ((wr.setCell ⟨W.heap.size, 0, none⟩ (.slice (some ⟨g1, 0, none⟩) n c1)).setCell ⟨W.heap.size, 1, none⟩ (.int .u8 ct)).cell? ⟨W.heap.size, 1, none⟩ = some (.int .u8 ct) := by simpa using ((x0.set_ 0 (.slice (some ⟨g1, 0, none⟩) n c1)).set_ 1 (.int .u8 ct)).cell 1
          have hrow : KRow PgG 60 2 wr (fun b => (ok b ∧ b < W.heap.size) ∨ W.heap.size + 1 ≤ b) (.slice (some ⟨g1, 0, none⟩) n c1) (ts.map (forceT ct)) :=
            MidG.row PgG.keeps md HRL.out ow (fun b hb => hb) (.inr hg1)
          have ROW := Hd hrow
          have HBR2 := Hd hbr
          clear hrow hbr x0 ow md
          go_wp2
          refine bodyPost_ret (by simp [results, Tryz.results131, go_sem, e0, e1]; try rfl) rfl ?_
          rw [HC0.out]
          refine ⟨some ⟨g1, 0, none⟩, n, c1, ct, rfl, ⟨some ⟨g1, 0, none⟩, n, c1, ct, _, rfl, rfl, t0, t1, by rw [List.length_map, HRL.out], hn, KRow.keep PgG.keeps ROW.out (fun b hb _ => ?_) (fun b hb _ => ?_)⟩, ?_⟩
          · have hne : b ≠ W.heap.size := by rcases hb with h | h <;> omega
            rw [Below.heap_setCell _ _ _ b hne, Below.heap_setCell _ _ _ b hne]
          · rcases hb with h | h
            · exact .inl h.1
            · exact .inr (by omega)
          · exact below_setCell' (below_setCell' HBR2.out (Nat.le_refl _) _) (Nat.le_refl _) _

end Go.Proofs.YtofdccmmagcamaaGreatDoor

/- Geometries of parts: ForceCoordinatesType. -/
set_option maxHeartbeats 8000000
set_option linter.unusedSimpArgs false
set_option linter.unusedVariables false
namespace Go.Proofs.YtofdccmmagcamaaGreatDoor
open Go.RowKit Go.Proofs.YtofdccmmagcamaaGreatDoorW.PrintLast

attribute [local go_sem] run_store_float

set_option maxRecDepth 100000 in
theorem MyForce_raw (Q : Int) (Q0 : 0 ≤ Q) (Q1 : Q ≤ 3) {ok : Nat → Prop} {A : Option Addr} {n c : Nat} (q : Int) {ts : List Gm} (W : World) (h : KRow PgG 60 2 W ok (.slice A n c) ts) (hrl : ts.length = n) (hok : ∀ t ∈ ts, OkT t) (hn : n ≤ 100000) :
    Calls Tryz.prog 130 #[.agg #[.slice A n c, .int .u8 q], .int .u8 Q] W fun e w' => ∃ (A' : Option Addr) (n' c' : Nat) (q' : Int), e = .returned (.agg #[.slice A' n' c', .int .u8 q']) ∧ MyG w' (fun b => ok b ∨ W.heap.size ≤ b) [.slice A' n' c', .int .u8 q'] (.mk 6 Q [] (ts.map (forceT Q))) ∧ Below W.heap.size W w' := by
  obtain ⟨i0, hi0, hz0, hz1, hz2⟩ := info_parts info_Pg
  have hmk : ∀ w : World, (Instr.makeSlice 119 (.int .i64 (n : Int)) (.int .i64 (n : Int))).run Tryz.prog w = .ok (.slice (some ⟨w.heap.size, 0, none⟩) n n) (w.alloc (.cells (madeCells #[.slice none 0 0, .int .u8 0] (n * 2)) 60)) := fun w => by
    have h := run_make_rowN (P := Tryz.prog) 119 60 i0 (.agg #[.slice none 0 0, .int .u8 0]) Tryz.underlying119 hi0 hz0 .i64 .i64 n n (Nat.le_refl _) (by rw [hz2]; omega) (by omega) w
    rw [hz1] at h
    exact h
  have H := Hd h
  have HRL := Hd hrl
  have HOK := Hd hok
  clear h hrl hok
  go_enter Tryz.func130, Tryz.ntmps130
  go_wp2_with fail
  have hsz2 : ((W.alloc (.cells #[.slice A n c, .int .u8 q] 121)).alloc (.cells #[.slice none 0 0, .int .u8 0] 121)).heap.size = W.heap.size + 2 := by simp
  obtain ⟨css, ho3, hf3⟩ := row_made (R := PgG) (sz := 2) (e := 60) (w := (W.alloc (.cells #[.slice A n c, .int .u8 q] 121)).alloc (.cells #[.slice none 0 0, .int .u8 0] 121)) (ok := fun b => (ok b ∧ b < W.heap.size) ∨ W.heap.size + 3 ≤ b) (ts := ts.map (forceT Q)) (n := n) (cur := madeCells #[.slice none 0 0, .int .u8 0] (n * 2)) (by rw [List.length_map]; exact HRL.out) (size_madeCells _ _) hn
  have b0 := ((Blk.new W 121 #[.slice A n c, .int .u8 q]).alloc (.cells #[.slice none 0 0, .int .u8 0] 121)).alloc (.cells (madeCells #[.slice none 0 0, .int .u8 0] (n * 2)) 60)
  have b1 := (Blk.new (W.alloc (.cells #[.slice A n c, .int .u8 q] 121)) 121 #[.slice none 0 0, .int .u8 0]).alloc (.cells (madeCells #[.slice none 0 0, .int .u8 0] (n * 2)) 60)
  have hb3 : Below W.heap.size W (((W.alloc (.cells #[.slice A n c, .int .u8 q] 121)).alloc (.cells #[.slice none 0 0, .int .u8 0] 121)).alloc (.cells (madeCells #[.slice none 0 0, .int .u8 0] (n * 2)) 60)) := (((Below.refl _ _).alloc (Nat.le_refl _) _).alloc (by simp) _).alloc (by simp; omega) _
  have hs3 : W.heap.size + 3 ≤ (((W.alloc (.cells #[.slice A n c, .int .u8 q] 121)).alloc (.cells #[.slice none 0 0, .int .u8 0] 121)).alloc (.cells (madeCells #[.slice none 0 0, .int .u8 0] (n * 2)) 60)).heap.size := by simp
  rw [hsz2] at ho3
  rw [World.size_alloc] at b1
  generalize ((W.alloc (.cells #[.slice A n c, .int .u8 q] 121)).alloc (.cells #[.slice none 0 0, .int .u8 0] 121)).alloc (.cells (madeCells #[.slice none 0 0, .int .u8 0] (n * 2)) 60) = w3 at *
  have r0 := b0.cell 0
  have r1 := b0.cell 1
  simp at r0 r1
  have HO3 := Hd ho3
  have HF3 := Hd hf3
  have B0 := Hd b0
  have B1 := Hd b1
  have HB3 := Hd hb3
  clear ho3 hf3 b0 b1 hb3 hsz2
  go_wp2_with fail
  go_loopw [14] (fun i wr => ∃ (k : Nat) (cs : List (List Value)), k ≤ n ∧ i = .int .i64 k ∧ Blk wr W.heap.size 121 #[.slice A n c, .int .u8 q] ∧ Blk wr (W.heap.size + 1) 121 #[.slice none 0 0, .int .u8 0] ∧ wr.ownsRow 0 60 2 (.slice (some ⟨W.heap.size + 2, 0, none⟩) n n) n cs.flatten ∧ FillG PgG 2 wr (fun b => (ok b ∧ b < W.heap.size) ∨ W.heap.size + 3 ≤ b) (ts.map (forceT Q)) k cs ∧ Below W.heap.size W wr ∧ W.heap.size + 3 ≤ wr.heap.size) (fun i _ => n - (intOf i).toNat)
  case atStart => exact ⟨0, css, Nat.zero_le _, rfl, B0.out, B1.out, HO3.out, HF3.out, HB3.out, hs3⟩
  case round =>
    obtain ⟨k, cs, hk, rfl, x0, x1, ow, md, hbr, hsr⟩ := hrel
    clear r0 r1
    have r0 := x0.cell 0
    have r1 := x0.cell 1
    simp at r0 r1
    by_cases hlt : k < n
    · obtain ⟨g, x, s, rfl, hgok, hr, hxl, hcl, hrs, hgl⟩ := row_at HRL.out H.out hlt
      replace hgl := hgl (by decide)
      have hsm : s ∈ ts := List.mem_of_getElem? hr
      obtain ⟨rA, rn, rc, rq, rfl, -⟩ := hrs.shape
      have j0 := (hbr.cell (p := ⟨g, k * 2 + 0, none⟩) hgl).trans (hcl 0 _ rfl)
      have j1 := (hbr.cell (p := ⟨g, k * 2 + 1, none⟩) hgl).trans (hcl 1 _ rfl)
      rw [Nat.add_zero] at j0
      have hcall := PgForce_G Q Q0 Q1 wr (PgG.keeps _ _ _ (fun b => ok b ∧ b < W.heap.size) _ _ hrs (fun b _ hl => hbr.block b hl) (fun b h hl => ⟨h.1, hl⟩)) (HOK.out s hsm)
      have hclen : k < cs.length := by rw [md.1, List.length_map, HRL.out]; exact hlt
      have hck : cs[k]? = some (cs[k]'hclen) := List.getElem?_eq_getElem _
      generalize (cs[k]'hclen) = z at hck
      obtain ⟨za, zb, rfl⟩ := list2 (md.2.1 z (List.mem_of_getElem? hck))
      have ad : ∀ g j : Nat, (⟨g, 0, none⟩ : Addr).add j = ⟨g, j, none⟩ := fun g j => by unfold Addr.add; split <;> simp_all
      have k0 := ow.cells (g := W.heap.size + 2) rfl (k * 2 + 0) za (by rw [flat_at md.2.1 hck (by omega)]; rfl)
      have k1 := ow.cells (g := W.heap.size + 2) rfl (k * 2 + 1) zb (by rw [flat_at md.2.1 hck (by omega)]; rfl)
      rw [ad] at k0 k1
      rw [Nat.add_zero] at k0
      have hrk : (ts.map (forceT Q))[k]? = some (forceT Q s) := by rw [List.getElem?_map, hr]; rfl
      have HCALL := Hd hcall
      have OW := Hd ow
      have MD := Hd md
      have X0 := Hd x0
      have X1 := Hd x1
      have HBR := Hd hbr
      have HRK := Hd hrk
      clear hcall ow md x0 x1 hbr hr hck hrk hsm hcl hrs
      go_wp2_with fail
      refine HCALL.out.mono ?_
      rintro e w5 ⟨yA, yn, yc, yq, rfl, h5, b5⟩
      have o5 : w5.ownsRow 0 60 2 (.slice (some ⟨W.heap.size + 2, 0, none⟩) n n) n cs.flatten := own_keep OW.out (fun b _ hb => b5.block b hb)
      have y0 := own_frozen o5 (g := W.heap.size + 2) rfl (k * 2)
      have y1 := own_frozen o5 (g := W.heap.size + 2) rfl (k * 2 + 1)
      have q0 := (b5.cell (p := ⟨W.heap.size + 2, k * 2, none⟩) (by show W.heap.size + 2 < _; omega)).trans k0
      have q1 := (b5.cell (p := ⟨W.heap.size + 2, k * 2 + 1, none⟩) (by show W.heap.size + 2 < _; omega)).trans k1
      have O5 := Hd o5
      have H5 := Hd h5
      have B5 := Hd b5
      clear o5 h5 b5 k0 k1 j0 j1 r0 r1
      go_wp2
      go_roundw
      case rel =>
        have hheap : ∀ b, b ≠ W.heap.size + 2 → ((w5.setCell ⟨W.heap.size + 2, k * 2, none⟩ (.slice yA yn yc)).setCell ⟨W.heap.size + 2, k * 2 + 1, none⟩ (.int .u8 yq)).heap[b]? = w5.heap[b]? := fun b hb => by
          rw [Below.heap_setCell _ _ _ b hb, Below.heap_setCell _ _ _ b hb]
        have hfl : cs.flatten.length = n * 2 := OW.out.1
        have hs5 := B5.out.size
        refine ⟨k + 1, cs.set k [.slice yA yn yc, .int .u8 yq], by omega, by go_num, ((X0.out.below B5.out X0.out.lt).far (by show W.heap.size ≠ W.heap.size + 2; omega) _).far (by show W.heap.size ≠ W.heap.size + 2; omega) _, ((X1.out.below B5.out X1.out.lt).far (by show W.heap.size + 1 ≠ W.heap.size + 2; omega) _).far (by show W.heap.size + 1 ≠ W.heap.size + 2; omega) _, ?_, FillG.next (FillG.keep PgG.keeps MD.out (fun b hb hl => (hheap b (by omega)).trans (B5.out.block b hl)) (fun b hb _ => hb)) HRK.out rfl (PgG.keeps _ _ _ _ _ _ H5.out (fun b hb _ => hheap b ?_) (fun b hb _ => ?_)), below_setCell' (below_setCell' (HBR.out.trans (B5.out.mono HBR.out.size)) (by show W.heap.size ≤ W.heap.size + 2; omega) _) (by show W.heap.size ≤ W.heap.size + 2; omega) _, by simp [World.setCell]; omega⟩
        · rw [flat_set2 MD.out.2.1 hclen]
          exact own_store (own_store O5.out rfl (by rw [hfl]; omega) _) rfl (by rw [List.length_set, hfl]; omega) _
        · rcases hb with h | h
          · have := h.2; omega
          · omega
        · rcases hb with h | h
          · exact .inl h
          · exact .inr (by omega)
      case measure => simp [intOf]; omega
    · obtain rfl : n = k := by omega
      have c0 := x1.cell 0
      have c1' := x1.cell 1
      have z0 := x1.frozen 0
      have z1 := x1.frozen 1
      simp at c0 c1'
      have e0 : (wr.setCell ⟨W.heap.size + 1, 0, none⟩ (.slice (some ⟨W.heap.size + 2, 0, none⟩) n n)).cell? ⟨W.heap.size + 1, 0, none⟩ = some (.slice (some ⟨W.heap.size + 2, 0, none⟩) n n) := by simpa using (x1.set_ 0 (.slice (some ⟨W.heap.size + 2, 0, none⟩) n n)).cell 0
      have e1 : ((wr.setCell ⟨W.heap.size + 1, 0, none⟩ (.slice (some ⟨W.heap.size + 2, 0, none⟩) n n)).setCell ⟨W.heap.size + 1, 1, none⟩ (.int .u8 Q)).cell? ⟨W.heap.size + 1, 1, none⟩ = some (.int .u8 Q) := by simpa using ((x1.set_ 0 (.slice (some ⟨W.heap.size + 2, 0, none⟩) n n)).set_ 1 (.int .u8 Q)).cell 1
      have hrow : KRow PgG 60 2 wr (fun b => (ok b ∧ b < W.heap.size) ∨ W.heap.size + 2 ≤ b) (.slice (some ⟨W.heap.size + 2, 0, none⟩) n n) (ts.map (forceT Q)) :=
        FillG.row PgG.keeps md (by rw [List.length_map, HRL.out]) ow (fun b hb => ⟨by rcases hb with h | h; exact .inl h; exact .inr (by omega), by omega⟩) (.inr (Nat.le_refl _))
      have ROW := Hd hrow
      have HBR := Hd hbr
      clear hrow hbr x0 x1 ow md
      go_wp2
      refine bodyPost_ret (by simp [results, Tryz.results130, go_sem, e0, e1]; try rfl) rfl ?_
      refine ⟨some ⟨W.heap.size + 2, 0, none⟩, n, n, Q, rfl, ⟨some ⟨W.heap.size + 2, 0, none⟩, n, n, Q, _, rfl, rfl, Q0, Q1, by rw [List.length_map, HRL.out], hn, KRow.keep PgG.keeps ROW.out (fun b hb _ => ?_) (fun b hb _ => ?_)⟩, ?_⟩
      · have hne : b ≠ W.heap.size + 1 := by rcases hb with h | h <;> omega
        rw [Below.heap_setCell _ _ _ b hne, Below.heap_setCell _ _ _ b hne]
      · rcases hb with h | h
        · exact .inl h.1
        · exact .inr (by omega)
      · exact below_setCell' (below_setCell' HBR.out (Nat.le_succ _) _) (Nat.le_succ _) _

theorem MyForce_G (Q : Int) (Q0 : 0 ≤ Q) (Q1 : Q ≤ 3) {ok : Nat → Prop} {A : Option Addr} {n c : Nat} {q : Int} {t : Gm} (W : World) (h : MyG W ok [.slice A n c, .int .u8 q] t) (ho : OkT t) :
    Calls Tryz.prog 130 #[.agg #[.slice A n c, .int .u8 q], .int .u8 Q] W fun e w' => ∃ (A' : Option Addr) (n' c' : Nat) (q' : Int), e = .returned (.agg #[.slice A' n' c', .int .u8 q']) ∧ MyG w' (fun b => ok b ∨ W.heap.size ≤ b) [.slice A' n' c', .int .u8 q'] (forceT Q t) ∧ Below W.heap.size W w' := by
  obtain ⟨A', n', c', q', ks, rfl, e, h0, h1, hl, hn, hr⟩ := h
  simp only [List.cons.injEq, Value.slice.injEq, Value.int.injEq, and_true, true_and] at e
  obtain ⟨⟨rfl, rfl, rfl⟩, rfl⟩ := e
  rw [forceT_mk, row_force_nil]
  cases ho with
  | mk d0 d1 hn' hm hk => exact MyForce_raw Q Q0 Q1 q W hr hl hk hn

end Go.Proofs.YtofdccmmagcamaaGreatDoor
