import Derived.Test.YtpbcfgehmalppaaGreatDoorPgV
import Derived.Test.YtpbcfgehmalppaaGreatDoorPgS
import Derived.Test.YtpbcfgehmalppaaGreatDoorPgT
/- Geometries of parts: their type of coordinates. -/
namespace Go.Proofs.YtpbcfgehmalppaaGreatDoor
open Go.RowKit Go.Proofs.YtpbcfgehmalppaaGreatDoorW.PrintLast

attribute [local go_sem] run_store_float

abbrev MyG := RowG PgG 63 2 6
theorem MyG.keeps : Keeps MyG := RowG.keeps PgG.keeps _ _ _
set_option maxRecDepth 100000 in
theorem PgCT (A : Option Addr) (n c : Nat) (q : Int) (w : World) : Calls Tryz.prog 101 #[.agg #[.slice A n c, .int .u8 q]] w fun e w' => e = .returned (.int .u8 q) ∧ Below w.heap.size w w' := by
  go_enter Tryz.func101, Tryz.ntmps101
  go_wp2
  go_ret
  exact ⟨rfl, (Below.refl _ _).alloc (Nat.le_refl _) _⟩
theorem PgCT_G {ok : Nat → Prop} {A : Option Addr} {n c : Nat} {q : Int} {t : Gm} (W : World) (h : PgG W ok [.slice A n c, .int .u8 q] t) :
    Calls Tryz.prog 101 #[.agg #[.slice A n c, .int .u8 q]] W fun e w' => e = .returned (.int .u8 t.d) ∧ Below W.heap.size W w' := by
  obtain ⟨A', n', c', q', e, hd, -⟩ := RowG.shape h
  simp only [List.cons.injEq, Value.int.injEq, and_true, true_and] at e
  rw [hd, ← e.2]
  exact PgCT A n c q W
theorem info_Pg : (Tryz.prog.info? 63).map (fun i => (i.zero, i.size, i.bytes)) = some (some (.agg #[.slice none 0 0, .int .u8 0]), 2, 32) := by kernel_rfl
theorem PgG.shape {w : World} {ok : Nat → Prop} {x : List Value} {t : Gm} (h : PgG w ok x t) : ∃ (A : Option Addr) (n c : Nat) (q : Int), x = [.slice A n c, .int .u8 q] ∧ t.d = q ∧ 0 ≤ q ∧ q ≤ 3 := RowG.shape h

set_option maxRecDepth 100000 in
theorem MlCT (A : Option Addr) (n c : Nat) (q : Int) (w : World) : Calls Tryz.prog 103 #[.agg #[.slice A n c, .int .u8 q]] w fun e w' => e = .returned (.int .u8 q) ∧ Below w.heap.size w w' := by
  go_enter Tryz.func103, Tryz.ntmps103
  go_wp2
  go_ret
  exact ⟨rfl, (Below.refl _ _).alloc (Nat.le_refl _) _⟩
theorem MlCT_G {ok : Nat → Prop} {A : Option Addr} {n c : Nat} {q : Int} {t : Gm} (W : World) (h : MlG W ok [.slice A n c, .int .u8 q] t) :
    Calls Tryz.prog 103 #[.agg #[.slice A n c, .int .u8 q]] W fun e w' => e = .returned (.int .u8 t.d) ∧ Below W.heap.size W w' := by
  obtain ⟨A', n', c', q', e, hd, -⟩ := RowG.shape h
  simp only [List.cons.injEq, Value.int.injEq, and_true, true_and] at e
  rw [hd, ← e.2]
  exact MlCT A n c q W
theorem info_Ml : (Tryz.prog.info? 67).map (fun i => (i.zero, i.size, i.bytes)) = some (some (.agg #[.slice none 0 0, .int .u8 0]), 2, 32) := by kernel_rfl
theorem MlG.shape {w : World} {ok : Nat → Prop} {x : List Value} {t : Gm} (h : MlG w ok x t) : ∃ (A : Option Addr) (n c : Nat) (q : Int), x = [.slice A n c, .int .u8 q] ∧ t.d = q ∧ 0 ≤ q ∧ q ≤ 3 := RowG.shape h

set_option maxRecDepth 100000 in
theorem MyCT (A : Option Addr) (n c : Nat) (q : Int) (w : World) : Calls Tryz.prog 104 #[.agg #[.slice A n c, .int .u8 q]] w fun e w' => e = .returned (.int .u8 q) ∧ Below w.heap.size w w' := by
  go_enter Tryz.func104, Tryz.ntmps104
  go_wp2
  go_ret
  exact ⟨rfl, (Below.refl _ _).alloc (Nat.le_refl _) _⟩
theorem MyCT_G {ok : Nat → Prop} {A : Option Addr} {n c : Nat} {q : Int} {t : Gm} (W : World) (h : MyG W ok [.slice A n c, .int .u8 q] t) :
    Calls Tryz.prog 104 #[.agg #[.slice A n c, .int .u8 q]] W fun e w' => e = .returned (.int .u8 t.d) ∧ Below W.heap.size W w' := by
  obtain ⟨A', n', c', q', e, hd, -⟩ := RowG.shape h
  simp only [List.cons.injEq, Value.int.injEq, and_true, true_and] at e
  rw [hd, ← e.2]
  exact MyCT A n c q W
theorem info_My : (Tryz.prog.info? 109).map (fun i => (i.zero, i.size, i.bytes)) = some (some (.agg #[.slice none 0 0, .int .u8 0]), 2, 32) := by kernel_rfl
theorem MyG.shape {w : World} {ok : Nat → Prop} {x : List Value} {t : Gm} (h : MyG w ok x t) : ∃ (A : Option Addr) (n c : Nat) (q : Int), x = [.slice A n c, .int .u8 q] ∧ t.d = q ∧ 0 ≤ q ∧ q ≤ 3 := RowG.shape h

theorem PgG.nums {w : World} {ok : Nat → Prop} {x : List Value} {t : Gm} (h : PgG w ok x t) : NumT t := RowG.nums (fun _ _ _ _ h => h.nums) h
theorem MlG.nums {w : World} {ok : Nat → Prop} {x : List Value} {t : Gm} (h : MlG w ok x t) : NumT t := RowG.nums (fun _ _ _ _ h => h.nums) h
theorem MyG.nums {w : World} {ok : Nat → Prop} {x : List Value} {t : Gm} (h : MyG w ok x t) : NumT t := RowG.nums (fun _ _ _ _ h => h.nums) h

end Go.Proofs.YtpbcfgehmalppaaGreatDoor

/- Geometries of parts: New brings the parts to the type that they have in common. -/
namespace Go.Proofs.YtpbcfgehmalppaaGreatDoor
open Go.RowKit Go.Proofs.YtpbcfgehmalppaaGreatDoorW.PrintLast

attribute [local go_sem] run_store_float

set_option maxHeartbeats 8000000 in
set_option maxRecDepth 100000 in
theorem NewMultiPolygon_G {ok : Nat → Prop} {A : Option Addr} {n c : Nat} {ts : List Gm} (W : World) (h : KRow PgG 63 2 W ok (.slice A n c) ts) (hrl : ts.length = n) (hok : ∀ t ∈ ts, OkT t) (hn : n ≤ 100000) (hn0 : 0 < n) :
    Calls Tryz.prog 121 #[.slice A n c] W fun e w' => ∃ (A' : Option Addr) (n' c' : Nat) (q' : Int), e = .returned (.agg #[.slice A' n' c', .int .u8 q']) ∧ MyG w' (fun b => ok b ∨ W.heap.size ≤ b) [.slice A' n' c', .int .u8 q'] (.mk 6 (ctF ts) [] (ts.map (forceT (ctF ts)))) ∧ Below W.heap.size W w' := by
  have hd : decide (0 < (n : Int)) = true := decide_eq_true (by omega)
  have H := Lib.hid h
  have HRL := Lib.hid hrl
  have HOK := Lib.hid hok
  clear h hrl hok
  go_enter Tryz.func121, Tryz.ntmps121
  go_wp2_with fail
  have hb3 : Below W.heap.size W (W.alloc (.cells #[.slice none 0 0, .int .u8 0] 109)) := (Below.refl _ _).alloc (Nat.le_refl _) _
  have x3 := Blk.new W 109 #[.slice none 0 0, .int .u8 0]
  have hs3 : W.heap.size + 1 ≤ (W.alloc (.cells #[.slice none 0 0, .int .u8 0] 109)).heap.size := by simp
  generalize W.alloc (.cells #[.slice none 0 0, .int .u8 0] 109) = w3 at *
  have X3 := Lib.hid x3
  have HB3 := Lib.hid hb3
  clear x3 hb3
  go_loopw [3, 12] (fun u i wr => ∃ (k : Nat), k ≤ n ∧ i = .int .i64 k ∧ u = .int .u8 (ctF (ts.take k)) ∧ 0 ≤ ctF (ts.take k) ∧ ctF (ts.take k) ≤ 3 ∧ Blk wr W.heap.size 109 #[.slice none 0 0, .int .u8 0] ∧ Below W.heap.size W wr ∧ W.heap.size + 1 ≤ wr.heap.size) (fun _ i _ => n - (intOf i).toNat)
  case atStart => exact ⟨0, Nat.zero_le _, rfl, rfl, by show (0 : Int) ≤ 3; decide, by show (3 : Int) ≤ 3; decide, X3.out, HB3.out, hs3⟩
  case round =>
    obtain ⟨k, hk, rfl, rfl, t0, t1, x0, hbr, hsr⟩ := hrel
    by_cases hlt : k < n
    · obtain ⟨g, x, s, rfl, hgok, hr, hxl, hcl, hrs, hgl⟩ := row_at HRL.out H.out hlt
      replace hgl := hgl (by decide)
      obtain ⟨rA, rn, rc, rq, rfl, -⟩ := hrs.shape
      obtain ⟨s0, s1⟩ : 0 ≤ s.d ∧ s.d ≤ 3 := (HOK.out s (List.mem_of_getElem? hr)).dr
      have hct : ctF (ts.take (k + 1)) = dand (ctF (ts.take k)) s.d := by
        unfold ctF
        rw [List.take_add_one, hr, Option.toList_some, List.foldl_append]
        rfl
      obtain ⟨v0, v1⟩ := dand_range t0 t1 s0 s1
      have hdu := dand_u8 t0 t1 s0 s1
      have j0 := (hbr.cell (p := ⟨g, k * 2 + 0, none⟩) hgl).trans (hcl 0 _ rfl)
      have j1 := (hbr.cell (p := ⟨g, k * 2 + 1, none⟩) hgl).trans (hcl 1 _ rfl)
      rw [Nat.add_zero] at j0
      have hcall := PgCT_G (wr.alloc (.cells #[.slice rA rn rc, .int .u8 rq] 63)) (PgG.keeps _ _ _ (fun b => b < W.heap.size) _ _ hrs (fun b _ hl => (Below.heap_alloc wr _ b (by omega)).trans (hbr.block b hl)) (fun b _ hl => hl))
      generalize ctF (ts.take k) = ct at *
      have HCT := Lib.hid hct
      have HDU := Lib.hid hdu
      have HBR := Lib.hid hbr
      have X0 := Lib.hid x0
      have HCALL := Lib.hid hcall
      clear hct hdu hbr x0 hr hcl hcall hrs
      generalize s.d = sq at *
      go_wp2_with fail
      refine HCALL.out.mono ?_
      rintro e w5 ⟨rfl, h5⟩
      have hb5 : Below wr.heap.size wr w5 := ((Below.refl _ _).alloc (Nat.le_refl _) _).trans (h5.mono (by simp))
      have HB5 := Lib.hid hb5
      clear h5 hb5
      go_wp2
      go_roundw
      case rel =>
        refine ⟨k + 1, by omega, by go_num, by rw [HCT.out, ← HDU.out], by rw [HCT.out]; exact v0, by rw [HCT.out]; exact v1, X0.out.below HB5.out X0.out.lt, HBR.out.trans (HB5.out.mono HBR.out.size), by have := HB5.out.size; omega⟩
      case measure => simp [intOf]; omega
    · obtain rfl : n = k := by omega
      rw [List.take_of_length_le (by rw [HRL.out]; exact Nat.le_refl _)] at t0 t1
      rw [List.take_of_length_le (by rw [HRL.out]; exact Nat.le_refl _)]
      generalize hCT : ctF ts = ct at *
      have HC0 := Lib.hid hCT
      clear hCT
      have HBR := Lib.hid hbr
      have X0 := Lib.hid x0
      clear hbr x0
      obtain ⟨css, r1, r2, r3, r4, r5⟩ := H.out
      rw [HRL.out] at r1
      have hrd : Reads wr W.heap.size 2 A n css.flatten := (Reads.of_own r1).below HBR.out
      have h1c : ∀ u ∈ css.flatten, u.oneCell' = true := one_cells (R := PgG) (fun w ok x t h => by obtain ⟨rA, rn, rc, rq, rfl, -⟩ := h.shape; simp [Value.oneCell']) r3 r5
      obtain ⟨i0, hi0, hz0, hz1, hz2⟩ := info_parts info_Pg
      have HRD := Lib.hid hrd
      have H1C := Lib.hid h1c
      have R5 := Lib.hid r5
      have R3 := Lib.hid r3
      have R4 := Lib.hid r4
      clear hrd h1c r1 r2 r3 r4 r5
      go_wp2_with (at_builtin; refine wpList_append_any _ rfl _ _ _ rfl 0 63 i0 (.agg #[.slice none 0 0, .int .u8 0]) 2 32 Tryz.underlying107 hi0 hz0 hz1 hz2 rfl (by decide) _ 0 [] rfl (World.ownsRow_nil _ _ _ _) W.heap.size A n c css.flatten rfl HRD.out H1C.out (by simp only [maxLen]; omega) (by omega) (Nat.zero_le _) ?_; intro v1 W1 ho hg hp; obtain ⟨c1, g1, rfl, hg1, ho1, hbw, x1⟩ := copied_row ho hg hp HBR.out HBR.out.size X0.out hn0 hsr; have HO := Lib.hid ho1; have X1 := Lib.hid x1; have HBW := Lib.hid hbw; clear ho hg hp hbw x1 ho1)
      have hmid : MidG PgG 2 W1 (fun b => ((ok b ∧ b < W.heap.size) ∨ W.heap.size + 1 ≤ b) ∧ b ≠ g1) ct ts 0 css :=
        ⟨R3.out, R4.out, fun i x s hx hs => by
          rw [if_neg (by omega)]
          exact PgG.keeps _ _ _ _ _ _ (R5.out i x s hx hs) (fun b _ hl => HBW.out.block b hl) (fun b hb hl => ⟨.inl ⟨hb.1, hl⟩, by omega⟩)⟩
      have HMID := Lib.hid hmid
      have hsz1 : g1 < W1.heap.size := (HO.out.lt g1 rfl).2
      clear hmid
      go_loopw [25] (fun i wr => ∃ (k : Nat) (cs : List (List Value)), k ≤ n ∧ i = .int .i64 k ∧ Blk wr W.heap.size 109 #[.slice none 0 0, .int .u8 0] ∧ wr.ownsRow 0 63 2 (.slice (some ⟨g1, 0, none⟩) n c1) n cs.flatten ∧ MidG PgG 2 wr (fun b => ((ok b ∧ b < W.heap.size) ∨ W.heap.size + 1 ≤ b) ∧ b ≠ g1) ct ts k cs ∧ Below W.heap.size W wr ∧ g1 < wr.heap.size) (fun i _ => n - (intOf i).toNat)
      case atStart => exact ⟨0, css, Nat.zero_le _, rfl, X1.out, HO.out, HMID.out, HBW.out, hsz1⟩
      case round =>
        obtain ⟨k, cs, hk, rfl, x0, ow, md, hbr, hsr2⟩ := hrel
        by_cases hlt : k < n
        · have hrk : ts[k]? = some (ts[k]'(by rw [HRL.out]; exact hlt)) := List.getElem?_eq_getElem _
          have hcl : k < cs.length := by rw [md.1, HRL.out]; exact hlt
          have hck : cs[k]? = some (cs[k]'hcl) := List.getElem?_eq_getElem _
          have hsm : (ts[k]'(by rw [HRL.out]; exact hlt)) ∈ ts := List.getElem_mem _
          generalize (ts[k]'(by rw [HRL.out]; exact hlt)) = s at hrk hsm
          generalize (cs[k]'hcl) = x at hck
          have hls := md.2.2 k x s hck hrk
          rw [if_neg (by omega)] at hls
          obtain ⟨rA, rn, rc, rq, rfl, -⟩ := hls.shape
          have ad : ∀ g j : Nat, (⟨g, 0, none⟩ : Addr).add j = ⟨g, j, none⟩ := fun g j => by unfold Addr.add; split <;> simp_all
          have k0 := ow.cells (g := g1) rfl (k * 2 + 0) (.slice rA rn rc) (by rw [flat_at md.2.1 hck (by omega)]; rfl)
          have k1 := ow.cells (g := g1) rfl (k * 2 + 1) (.int .u8 rq) (by rw [flat_at md.2.1 hck (by omega)]; rfl)
          rw [ad] at k0 k1
          rw [Nat.add_zero] at k0
          have hcall := PgForce_G ct t0 t1 wr hls (HOK.out s hsm)
          have HCALL := Lib.hid hcall
          have OW := Lib.hid ow
          have MD := Lib.hid md
          have X0' := Lib.hid x0
          have HBR2 := Lib.hid hbr
          have HRK := Lib.hid hrk
          clear hcall ow md x0 hbr hls hck hrk hsm
          go_wp2_with fail
          refine HCALL.out.mono ?_
          rintro e w5 ⟨yA, yn, yc, yq, rfl, h5, b5⟩
          have o5 : w5.ownsRow 0 63 2 (.slice (some ⟨g1, 0, none⟩) n c1) n cs.flatten := own_keep OW.out (fun b _ hb => b5.block b hb)
          have y0 := own_frozen o5 (g := g1) rfl (k * 2)
          have y1 := own_frozen o5 (g := g1) rfl (k * 2 + 1)
          have q0 := (b5.cell (p := ⟨g1, k * 2, none⟩) hsr2).trans k0
          have q1 := (b5.cell (p := ⟨g1, k * 2 + 1, none⟩) hsr2).trans k1
          have O5 := Lib.hid o5
          have H5 := Lib.hid h5
          have B5 := Lib.hid b5
          clear o5 h5 b5 k0 k1
          go_wp2
          go_roundw
          case rel =>
            have hheap : ∀ b, b ≠ g1 → ((w5.setCell ⟨g1, k * 2, none⟩ (.slice yA yn yc)).setCell ⟨g1, k * 2 + 1, none⟩ (.int .u8 yq)).heap[b]? = w5.heap[b]? := fun b hb => by
              rw [Below.heap_setCell _ _ _ b hb, Below.heap_setCell _ _ _ b hb]
            have hfl : cs.flatten.length = n * 2 := OW.out.1
            have hs5 := B5.out.size
            refine ⟨k + 1, cs.set k [.slice yA yn yc, .int .u8 yq], by omega, by go_num, ((X0'.out.below B5.out X0'.out.lt).far (by show W.heap.size ≠ g1; omega) _).far (by show W.heap.size ≠ g1; omega) _, ?_, MidG.next (MidG.keep PgG.keeps MD.out (fun b hb hl => (hheap b hb.2).trans (B5.out.block b hl)) (fun b hb _ => hb)) HRK.out rfl (PgG.keeps _ _ _ _ _ _ H5.out (fun b hb _ => hheap b ?_) (fun b hb _ => ?_)), below_setCell' (below_setCell' (HBR2.out.trans (B5.out.mono HBR2.out.size)) (by show W.heap.size ≤ g1; omega) _) (by show W.heap.size ≤ g1; omega) _, by simp [World.setCell]; omega⟩
            · rw [flat_set2 MD.out.2.1 hcl]
              exact own_store (own_store O5.out rfl (by rw [hfl]; omega) _) rfl (by rw [List.length_set, hfl]; omega) _
            · rcases hb with h | h
              · exact h.2
              · omega
            · rcases hb with h | h
              · exact h
              · have := HBR2.out.size; exact ⟨.inr (by omega), by omega⟩
          case measure => simp [intOf]; omega
        · obtain rfl : n = k := by omega
          have c0 := x0.cell 0
          have c1' := x0.cell 1
          have z0 := x0.frozen 0
          have z1 := x0.frozen 1
          simp at c0 c1'
          have e0 : (wr.setCell ⟨W.heap.size, 0, none⟩ (.slice (some ⟨g1, 0, none⟩) n c1)).cell? ⟨W.heap.size, 0, none⟩ = some (.slice (some ⟨g1, 0, none⟩) n c1) := by simpa using (x0.set_ 0 (.slice (some ⟨g1, 0, none⟩) n c1)).cell 0
          have e1 : ((wr.setCell ⟨W.heap.size, 0, none⟩ (.slice (some ⟨g1, 0, none⟩) n c1)).setCell ⟨W.heap.size, 1, none⟩ (.int .u8 ct)).cell? ⟨W.heap.size, 1, none⟩ = some (.int .u8 ct) := by simpa using ((x0.set_ 0 (.slice (some ⟨g1, 0, none⟩) n c1)).set_ 1 (.int .u8 ct)).cell 1
          have hrow : KRow PgG 63 2 wr (fun b => (ok b ∧ b < W.heap.size) ∨ W.heap.size + 1 ≤ b) (.slice (some ⟨g1, 0, none⟩) n c1) (ts.map (forceT ct)) :=
            MidG.row PgG.keeps md HRL.out ow (fun b hb => hb) (.inr hg1)
          have ROW := Lib.hid hrow
          have HBR2 := Lib.hid hbr
          clear hrow hbr x0 ow md
          go_wp2
          refine bodyPost_ret (by simp [results, Tryz.results121, go_sem, e0, e1]; try rfl) rfl ?_
          rw [HC0.out]
          refine ⟨some ⟨g1, 0, none⟩, n, c1, ct, rfl, ⟨some ⟨g1, 0, none⟩, n, c1, ct, _, rfl, rfl, t0, t1, by rw [List.length_map, HRL.out], hn, KRow.keep PgG.keeps ROW.out (fun b hb _ => ?_) (fun b hb _ => ?_)⟩, ?_⟩
          · have hne : b ≠ W.heap.size := by rcases hb with h | h <;> omega
            rw [Below.heap_setCell _ _ _ b hne, Below.heap_setCell _ _ _ b hne]
          · rcases hb with h | h
            · exact .inl h.1
            · exact .inr (by omega)
          · exact below_setCell' (below_setCell' HBR2.out (Nat.le_refl _) _) (Nat.le_refl _) _

end Go.Proofs.YtpbcfgehmalppaaGreatDoor

/- Geometries of parts: ForceCoordinatesType. -/
namespace Go.Proofs.YtpbcfgehmalppaaGreatDoor
open Go.RowKit Go.Proofs.YtpbcfgehmalppaaGreatDoorW.PrintLast

attribute [local go_sem] run_store_float

set_option maxHeartbeats 8000000 in
set_option maxRecDepth 100000 in
theorem MyForce_raw (Q : Int) (Q0 : 0 ≤ Q) (Q1 : Q ≤ 3) {ok : Nat → Prop} {A : Option Addr} {n c : Nat} (q : Int) {ts : List Gm} (W : World) (h : KRow PgG 63 2 W ok (.slice A n c) ts) (hrl : ts.length = n) (hok : ∀ t ∈ ts, OkT t) (hn : n ≤ 100000) :
    Calls Tryz.prog 120 #[.agg #[.slice A n c, .int .u8 q], .int .u8 Q] W fun e w' => ∃ (A' : Option Addr) (n' c' : Nat) (q' : Int), e = .returned (.agg #[.slice A' n' c', .int .u8 q']) ∧ MyG w' (fun b => ok b ∨ W.heap.size ≤ b) [.slice A' n' c', .int .u8 q'] (.mk 6 Q [] (ts.map (forceT Q))) ∧ Below W.heap.size W w' := by
  obtain ⟨i0, hi0, hz0, hz1, hz2⟩ := info_parts info_Pg
  have hmk : ∀ w : World, (Instr.makeSlice 107 (.int .i64 (n : Int)) (.int .i64 (n : Int))).run Tryz.prog w = .ok (.slice (some ⟨w.heap.size, 0, none⟩) n n) (w.alloc (.cells (madeCells #[.slice none 0 0, .int .u8 0] (n * 2)) 63)) := fun w => by
    have h := run_make_rowN (P := Tryz.prog) 107 63 i0 (.agg #[.slice none 0 0, .int .u8 0]) Tryz.underlying107 hi0 hz0 .i64 .i64 n n (Nat.le_refl _) (by rw [hz2]; omega) (by omega) w
    rw [hz1] at h
    exact h
  have H := Lib.hid h
  have HRL := Lib.hid hrl
  have HOK := Lib.hid hok
  clear h hrl hok
  go_enter Tryz.func120, Tryz.ntmps120
  go_wp2_with fail
  have hsz2 : ((W.alloc (.cells #[.slice A n c, .int .u8 q] 109)).alloc (.cells #[.slice none 0 0, .int .u8 0] 109)).heap.size = W.heap.size + 2 := by simp
  obtain ⟨css, ho3, hf3⟩ := row_made (R := PgG) (sz := 2) (e := 63) (w := (W.alloc (.cells #[.slice A n c, .int .u8 q] 109)).alloc (.cells #[.slice none 0 0, .int .u8 0] 109)) (ok := fun b => (ok b ∧ b < W.heap.size) ∨ W.heap.size + 3 ≤ b) (ts := ts.map (forceT Q)) (n := n) (cur := madeCells #[.slice none 0 0, .int .u8 0] (n * 2)) (by rw [List.length_map]; exact HRL.out) (size_madeCells _ _) hn
  have b0 := ((Blk.new W 109 #[.slice A n c, .int .u8 q]).alloc (.cells #[.slice none 0 0, .int .u8 0] 109)).alloc (.cells (madeCells #[.slice none 0 0, .int .u8 0] (n * 2)) 63)
  have b1 := (Blk.new (W.alloc (.cells #[.slice A n c, .int .u8 q] 109)) 109 #[.slice none 0 0, .int .u8 0]).alloc (.cells (madeCells #[.slice none 0 0, .int .u8 0] (n * 2)) 63)
  have hb3 : Below W.heap.size W (((W.alloc (.cells #[.slice A n c, .int .u8 q] 109)).alloc (.cells #[.slice none 0 0, .int .u8 0] 109)).alloc (.cells (madeCells #[.slice none 0 0, .int .u8 0] (n * 2)) 63)) := (((Below.refl _ _).alloc (Nat.le_refl _) _).alloc (by simp) _).alloc (by simp; omega) _
  have hs3 : W.heap.size + 3 ≤ (((W.alloc (.cells #[.slice A n c, .int .u8 q] 109)).alloc (.cells #[.slice none 0 0, .int .u8 0] 109)).alloc (.cells (madeCells #[.slice none 0 0, .int .u8 0] (n * 2)) 63)).heap.size := by simp
  rw [hsz2] at ho3
  rw [World.size_alloc] at b1
  generalize ((W.alloc (.cells #[.slice A n c, .int .u8 q] 109)).alloc (.cells #[.slice none 0 0, .int .u8 0] 109)).alloc (.cells (madeCells #[.slice none 0 0, .int .u8 0] (n * 2)) 63) = w3 at *
  have r0 := b0.cell 0
  have r1 := b0.cell 1
  simp at r0 r1
  have HO3 := Lib.hid ho3
  have HF3 := Lib.hid hf3
  have B0 := Lib.hid b0
  have B1 := Lib.hid b1
  have HB3 := Lib.hid hb3
  clear ho3 hf3 b0 b1 hb3 hsz2
  go_wp2_with fail
  go_loopw [14] (fun i wr => ∃ (k : Nat) (cs : List (List Value)), k ≤ n ∧ i = .int .i64 k ∧ Blk wr W.heap.size 109 #[.slice A n c, .int .u8 q] ∧ Blk wr (W.heap.size + 1) 109 #[.slice none 0 0, .int .u8 0] ∧ wr.ownsRow 0 63 2 (.slice (some ⟨W.heap.size + 2, 0, none⟩) n n) n cs.flatten ∧ FillG PgG 2 wr (fun b => (ok b ∧ b < W.heap.size) ∨ W.heap.size + 3 ≤ b) (ts.map (forceT Q)) k cs ∧ Below W.heap.size W wr ∧ W.heap.size + 3 ≤ wr.heap.size) (fun i _ => n - (intOf i).toNat)
  case atStart => exact ⟨0, css, Nat.zero_le _, rfl, B0.out, B1.out, HO3.out, HF3.out, HB3.out, hs3⟩
  case round =>
    obtain ⟨k, cs, hk, rfl, x0, x1, ow, md, hbr, hsr⟩ := hrel
    clear r0 r1
    have r0 := x0.cell 0
    have r1 := x0.cell 1
    simp at r0 r1
    by_cases hlt : k < n
    · obtain ⟨g, x, s, rfl, hgok, hr, hxl, hcl, hrs, hgl⟩ := row_at HRL.out H.out hlt
      replace hgl := hgl (by decide)
      have hsm : s ∈ ts := List.mem_of_getElem? hr
      obtain ⟨rA, rn, rc, rq, rfl, -⟩ := hrs.shape
      have j0 := (hbr.cell (p := ⟨g, k * 2 + 0, none⟩) hgl).trans (hcl 0 _ rfl)
      have j1 := (hbr.cell (p := ⟨g, k * 2 + 1, none⟩) hgl).trans (hcl 1 _ rfl)
      rw [Nat.add_zero] at j0
      have hcall := PgForce_G Q Q0 Q1 wr (PgG.keeps _ _ _ (fun b => ok b ∧ b < W.heap.size) _ _ hrs (fun b _ hl => hbr.block b hl) (fun b h hl => ⟨h.1, hl⟩)) (HOK.out s hsm)
      have hclen : k < cs.length := by rw [md.1, List.length_map, HRL.out]; exact hlt
      have hck : cs[k]? = some (cs[k]'hclen) := List.getElem?_eq_getElem _
      generalize (cs[k]'hclen) = z at hck
      obtain ⟨za, zb, rfl⟩ := list2 (md.2.1 z (List.mem_of_getElem? hck))
      have ad : ∀ g j : Nat, (⟨g, 0, none⟩ : Addr).add j = ⟨g, j, none⟩ := fun g j => by unfold Addr.add; split <;> simp_all
      have k0 := ow.cells (g := W.heap.size + 2) rfl (k * 2 + 0) za (by rw [flat_at md.2.1 hck (by omega)]; rfl)
      have k1 := ow.cells (g := W.heap.size + 2) rfl (k * 2 + 1) zb (by rw [flat_at md.2.1 hck (by omega)]; rfl)
      rw [ad] at k0 k1
      rw [Nat.add_zero] at k0
      have hrk : (ts.map (forceT Q))[k]? = some (forceT Q s) := by rw [List.getElem?_map, hr]; rfl
      have HCALL := Lib.hid hcall
      have OW := Lib.hid ow
      have MD := Lib.hid md
      have X0 := Lib.hid x0
      have X1 := Lib.hid x1
      have HBR := Lib.hid hbr
      have HRK := Lib.hid hrk
      clear hcall ow md x0 x1 hbr hr hck hrk hsm hcl hrs
      go_wp2_with fail
      refine HCALL.out.mono ?_
      rintro e w5 ⟨yA, yn, yc, yq, rfl, h5, b5⟩
      have o5 : w5.ownsRow 0 63 2 (.slice (some ⟨W.heap.size + 2, 0, none⟩) n n) n cs.flatten := own_keep OW.out (fun b _ hb => b5.block b hb)
      have y0 := own_frozen o5 (g := W.heap.size + 2) rfl (k * 2)
      have y1 := own_frozen o5 (g := W.heap.size + 2) rfl (k * 2 + 1)
      have q0 := (b5.cell (p := ⟨W.heap.size + 2, k * 2, none⟩) (by show W.heap.size + 2 < _; omega)).trans k0
      have q1 := (b5.cell (p := ⟨W.heap.size + 2, k * 2 + 1, none⟩) (by show W.heap.size + 2 < _; omega)).trans k1
      have O5 := Lib.hid o5
      have H5 := Lib.hid h5
      have B5 := Lib.hid b5
      clear o5 h5 b5 k0 k1 j0 j1 r0 r1
      go_wp2
      go_roundw
      case rel =>
        have hheap : ∀ b, b ≠ W.heap.size + 2 → ((w5.setCell ⟨W.heap.size + 2, k * 2, none⟩ (.slice yA yn yc)).setCell ⟨W.heap.size + 2, k * 2 + 1, none⟩ (.int .u8 yq)).heap[b]? = w5.heap[b]? := fun b hb => by
          rw [Below.heap_setCell _ _ _ b hb, Below.heap_setCell _ _ _ b hb]
        have hfl : cs.flatten.length = n * 2 := OW.out.1
        have hs5 := B5.out.size
        refine ⟨k + 1, cs.set k [.slice yA yn yc, .int .u8 yq], by omega, by go_num, ((X0.out.below B5.out X0.out.lt).far (by show W.heap.size ≠ W.heap.size + 2; omega) _).far (by show W.heap.size ≠ W.heap.size + 2; omega) _, ((X1.out.below B5.out X1.out.lt).far (by show W.heap.size + 1 ≠ W.heap.size + 2; omega) _).far (by show W.heap.size + 1 ≠ W.heap.size + 2; omega) _, ?_, FillG.next (FillG.keep PgG.keeps MD.out (fun b hb hl => (hheap b (by omega)).trans (B5.out.block b hl)) (fun b hb _ => hb)) HRK.out rfl (PgG.keeps _ _ _ _ _ _ H5.out (fun b hb _ => hheap b ?_) (fun b hb _ => ?_)), below_setCell' (below_setCell' (HBR.out.trans (B5.out.mono HBR.out.size)) (by show W.heap.size ≤ W.heap.size + 2; omega) _) (by show W.heap.size ≤ W.heap.size + 2; omega) _, by simp [World.setCell]; omega⟩
        · rw [flat_set2 MD.out.2.1 hclen]
          exact own_store (own_store O5.out rfl (by rw [hfl]; omega) _) rfl (by rw [List.length_set, hfl]; omega) _
        · rcases hb with h | h
          · have := h.2; omega
          · omega
        · rcases hb with h | h
          · exact .inl h
          · exact .inr (by omega)
      case measure => simp [intOf]; omega
    · obtain rfl : n = k := by omega
      have c0 := x1.cell 0
      have c1' := x1.cell 1
      have z0 := x1.frozen 0
      have z1 := x1.frozen 1
      simp at c0 c1'
      have e0 : (wr.setCell ⟨W.heap.size + 1, 0, none⟩ (.slice (some ⟨W.heap.size + 2, 0, none⟩) n n)).cell? ⟨W.heap.size + 1, 0, none⟩ = some (.slice (some ⟨W.heap.size + 2, 0, none⟩) n n) := by simpa using (x1.set_ 0 (.slice (some ⟨W.heap.size + 2, 0, none⟩) n n)).cell 0
      have e1 : ((wr.setCell ⟨W.heap.size + 1, 0, none⟩ (.slice (some ⟨W.heap.size + 2, 0, none⟩) n n)).setCell ⟨W.heap.size + 1, 1, none⟩ (.int .u8 Q)).cell? ⟨W.heap.size + 1, 1, none⟩ = some (.int .u8 Q) := by simpa using ((x1.set_ 0 (.slice (some ⟨W.heap.size + 2, 0, none⟩) n n)).set_ 1 (.int .u8 Q)).cell 1
      have hrow : KRow PgG 63 2 wr (fun b => (ok b ∧ b < W.heap.size) ∨ W.heap.size + 2 ≤ b) (.slice (some ⟨W.heap.size + 2, 0, none⟩) n n) (ts.map (forceT Q)) :=
        FillG.row PgG.keeps md (by rw [List.length_map, HRL.out]) ow (fun b hb => ⟨by rcases hb with h | h; exact .inl h; exact .inr (by omega), by omega⟩) (.inr (Nat.le_refl _))
      have ROW := Lib.hid hrow
      have HBR := Lib.hid hbr
      clear hrow hbr x0 x1 ow md
      go_wp2
      refine bodyPost_ret (by simp [results, Tryz.results120, go_sem, e0, e1]; try rfl) rfl ?_
      refine ⟨some ⟨W.heap.size + 2, 0, none⟩, n, n, Q, rfl, ⟨some ⟨W.heap.size + 2, 0, none⟩, n, n, Q, _, rfl, rfl, Q0, Q1, by rw [List.length_map, HRL.out], hn, KRow.keep PgG.keeps ROW.out (fun b hb _ => ?_) (fun b hb _ => ?_)⟩, ?_⟩
      · have hne : b ≠ W.heap.size + 1 := by rcases hb with h | h <;> omega
        rw [Below.heap_setCell _ _ _ b hne, Below.heap_setCell _ _ _ b hne]
      · rcases hb with h | h
        · exact .inl h.1
        · exact .inr (by omega)
      · exact below_setCell' (below_setCell' HBR.out (Nat.le_succ _) _) (Nat.le_succ _) _

theorem MyForce_G (Q : Int) (Q0 : 0 ≤ Q) (Q1 : Q ≤ 3) {ok : Nat → Prop} {A : Option Addr} {n c : Nat} {q : Int} {t : Gm} (W : World) (h : MyG W ok [.slice A n c, .int .u8 q] t) (ho : OkT t) :
    Calls Tryz.prog 120 #[.agg #[.slice A n c, .int .u8 q], .int .u8 Q] W fun e w' => ∃ (A' : Option Addr) (n' c' : Nat) (q' : Int), e = .returned (.agg #[.slice A' n' c', .int .u8 q']) ∧ MyG w' (fun b => ok b ∨ W.heap.size ≤ b) [.slice A' n' c', .int .u8 q'] (forceT Q t) ∧ Below W.heap.size W w' := by
  obtain ⟨A', n', c', q', ks, rfl, e, h0, h1, hl, hn, hr⟩ := h
  simp only [List.cons.injEq, Value.slice.injEq, Value.int.injEq, and_true, true_and] at e
  obtain ⟨⟨rfl, rfl, rfl⟩, rfl⟩ := e
  rw [forceT_mk, row_force_nil]
  cases ho with
  | mk d0 d1 hn' hm hk => exact MyForce_raw Q Q0 Q1 q W hr hl hk hn

end Go.Proofs.YtpbcfgehmalppaaGreatDoor

/- Geometries of parts made of plain data. -/
namespace Go.Proofs.YtpbcfgehmalppaaGreatDoor
open Go.RowKit Go.Proofs.YtpbcfgehmalppaaGreatDoorW.PrintLast

attribute [local go_sem] run_store_float

set_option maxHeartbeats 8000000 in
set_option maxRecDepth 100000 in
theorem multiPolygon_G {w0 : World} {B : Nat} {v : Value} {t : Gm} (h : GmAt w0 B v t) (hk : t.k = 6) (hs : t.sz ≤ 100000) (W : World) (hb : Below B w0 W) (hB : B ≤ W.heap.size) :
    Calls Tryz.prog 78 #[v] W fun e w' => ∃ (A : Option Addr) (n c : Nat) (q : Int), e = .returned (.agg #[.slice A n c, .int .u8 q]) ∧ MyG w' (fun b => W.heap.size ≤ b) [.slice A n c, .int .u8 q] (newT t) ∧ Below W.heap.size W w' := by
  cases h with
  | @mk k d ns ks n m A K c c' us en em hn hbs hcap hkk hss =>
  unfold Gm.k at hk
  simp only at hk
  subst hk
  unfold Gm.sz at hs
  have hlen := szs_len ks
  have hmm : m ≤ 100000 := by omega
  have hnt : newT (.mk 6 d ns ks) = partsT 6 (d % 4) ((ks.map newT).filter (keepT 6)) := by
    rw [newT_mk, if_neg (by decide)]
    rfl
  have q0 : 0 ≤ d % 4 := by omega
  have q1 : d % 4 ≤ 3 := by omega
  rw [hnt]
  generalize hT : partsT 6 (d % 4) ((ks.map newT).filter (keepT 6)) = T
  have HPT := Lib.hid hT
  clear hT
  have HK := Lib.hid hkk
  have HS := Lib.hid hss
  have HEM := Lib.hid em
  have HBL := Lib.hid hb
  have b0 := (Blk.new W 25 #[.int .i64 6, .int .i64 d, .slice A n c, .slice K m c']).alloc (.cells #[.slice none 0 0, .int .u8 0] 109)
  have b1 := Blk.new (W.alloc (.cells #[.int .i64 6, .int .i64 d, .slice A n c, .slice K m c'] 25)) 109 #[.slice none 0 0, .int .u8 0]
  have hbw : Below W.heap.size W ((W.alloc (.cells #[.int .i64 6, .int .i64 d, .slice A n c, .slice K m c'] 25)).alloc (.cells #[.slice none 0 0, .int .u8 0] 109)) := ((Below.refl W.heap.size W).alloc (Nat.le_refl _) _).alloc (by simp) _
  have hsz3 : W.heap.size + 2 ≤ ((W.alloc (.cells #[.int .i64 6, .int .i64 d, .slice A n c, .slice K m c'] 25)).alloc (.cells #[.slice none 0 0, .int .u8 0] 109)).heap.size := by simp
  rw [World.size_alloc] at b1
  have B0 := Lib.hid b0
  have B1 := Lib.hid b1
  have HB3 := Lib.hid hbw
  clear hkk hss em hb b0 b1 hbw hn hbs hcap en hnt
  go_enter Tryz.func78, Tryz.ntmps78
  go_wp2_with fail
  generalize (W.alloc (.cells #[.int .i64 6, .int .i64 d, .slice A n c, .slice K m c'] 25)).alloc (.cells #[.slice none 0 0, .int .u8 0] 109) = w3 at *
  go_loopw [3, 9] (fun u i wr => ∃ q : Nat, q ≤ m ∧ i = .int .i64 q ∧ Blk wr W.heap.size 25 #[.int .i64 6, .int .i64 d, .slice A n c, .slice K m c'] ∧ Blk wr (W.heap.size + 1) 109 #[.slice none 0 0, .int .u8 0] ∧
    KRow PgG 63 2 wr (fun b => W.heap.size + 2 ≤ b) u (((ks.take q).map newT).filter (keepT 6)) ∧ Below W.heap.size W wr ∧ W.heap.size + 2 ≤ wr.heap.size) (fun _ i _ => m - (intOf i).toNat)
  case atStart => exact ⟨0, Nat.zero_le _, rfl, B0.out, B1.out, KRow.nil _ _, HB3.out, hsz3⟩
  case round =>
    obtain ⟨q, hq, rfl, x0, x1, kr, hbr, hsr⟩ := hrel
    by_cases hlt : q < m
    · have hkq : ks[q]? = some (ks[q]'(by rw [HEM.out]; exact hlt)) := List.getElem?_eq_getElem _
      generalize (ks[q]'(by rw [HEM.out]; exact hlt)) = t at hkq
      obtain ⟨ad, rfl, hab, hcell⟩ := HK.out q hlt
      have hWr : Below B W wr := hbr.mono hB
      have hcc : ∀ j, j < 4 → wr.cell? (ad.add (q * 4 + j)) = some (us q j) := fun j hj => (hWr.cell (by rw [block_of_add]; exact hab)).trans ((HBL.out.cell (by rw [block_of_add]; exact hab)).trans (hcell j hj))
      obtain ⟨d0, d1, d2, d3⟩ := cells4 hcc
      have hgm := HS.out q t hkq
      obtain ⟨xk, xd, xA, xK, xn, xm, xc, xc', g0, g1, g2, g3⟩ := hgm.shape
      rw [g0, g1, g2, g3] at hgm
      rw [g0] at d0
      rw [g1] at d1
      rw [g2] at d2
      rw [g3] at d3
      have hxk := gmAt_k hgm
      have hkeep : keepT 6 (newT t) = decide (xk = 3) := by
        unfold keepT
        rw [newT_k, hxk]
        exact kid_k6 xk
      have hrt : ((ks.take (q + 1)).map newT).filter (keepT 6) = ((ks.take q).map newT).filter (keepT 6) ++ (if xk = 3 then [newT t] else []) := by
        rw [List.take_add_one, hkq, Option.toList_some, List.map_append, List.filter_append, List.map_singleton, List.filter_cons, List.filter_nil, hkeep]
        by_cases h : xk = 3
        · rw [if_pos h, decide_eq_true h]; rfl
        · rw [if_neg h, decide_eq_false h]; rfl
      have hxs : t.sz ≤ 100000 := by
        have := sz_kid hkq
        omega
      obtain ⟨css2, r1, r2, r3', r4, r5⟩ := kr
      have hlq : (((ks.take q).map newT).filter (keepT 6)).length ≤ q := Nat.le_trans (List.length_filter_le _ _) (by rw [List.length_map, List.length_take]; omega)
      obtain ⟨i0, hi0, hz0, hz1, hz2⟩ := info_parts info_Pg
      have hcall := fun hx : xk = 3 => polygon_G hgm (hxk.trans hx) hxs (wr.alloc (.cells #[.int .i64 xk, .int .i64 xd, .slice xA xn xc, .slice xK xm xc'] 25)) ((HBL.out.trans hWr).alloc (by omega) _) (by simp; omega)
      have HC := Lib.hid hcall
      have HRT := Lib.hid hrt
      have X0 := Lib.hid x0
      have X1 := Lib.hid x1
      have HBR := Lib.hid hbr
      have R1 := Lib.hid r1
      have R2 := Lib.hid r2
      have R3 := Lib.hid r3'
      have R4 := Lib.hid r4
      have R5 := Lib.hid r5
      have f0 : ∀ o : Obj, (wr.alloc o).cell? ⟨W.heap.size, 0, none⟩ = some (.int .i64 6) := fun o => ((x0.alloc o).cell 0).trans rfl
      clear hcall hrt x0 x1 hbr r1 r2 r3' r4 r5 hkq hcc hcell hWr g0 g1 g2 g3 hgm hkeep hxk
      generalize ((ks.take q).map newT).filter (keepT 6) = rs at *
      by_cases h2 : xk = 3
      · subst h2
        replace HC := Lib.hid (HC.out rfl)
        generalize newT t = tm at *
        go_wp2_with fail
        refine HC.out.mono ?_
        rintro e w4 ⟨yA, yn, yc, yq, rfl, h4, b4⟩
        rw [if_pos trivial] at HRT
        have HB4 : Hid (Below wr.heap.size wr w4) := Lib.hid (((Below.refl wr.heap.size wr).alloc (Nat.le_refl _) _).trans (b4.mono (by simp)))
        have hws : wr.heap.size + 1 ≤ w4.heap.size := by have := b4.size; simpa using this
        have H4 := Lib.hid (PgG.keeps _ w4 _ (fun b => wr.heap.size ≤ b) _ _ h4 (fun _ _ _ => rfl) (fun b hb _ => by simp at hb; omega))
        have HOW : Hid (w4.ownsRow 0 63 2 u3 rs.length css2.flatten) := Lib.hid (own_keep R1.out (fun b _ hb => HB4.out.block b hb))
        have HOK : Hid (∀ b, wr.heap.size ≤ b → W.heap.size + 2 ≤ b) := Lib.hid fun b hb => by omega
        clear h4 b4
        go_wp2_with (at_builtin; refine wpList_append_any _ rfl _ _ _ rfl 0 63 i0 (.agg #[.slice none 0 0, .int .u8 0]) 2 32 Tryz.underlying107 hi0 hz0 hz1 hz2 rfl (by decide) _ rs.length css2.flatten rfl (by exact World.ownsRow.alloc HOW.out _) _ _ 1 _ [.slice yA yn yc, .int .u8 yq] rfl (by exact reads_new2 (by simp)) (by simp [Value.oneCell']) (by simp only [maxLen]; omega) (by omega) (Nat.zero_le _) ?_; intro v1 W1 ho hg hp; obtain ⟨kr1, hg1⟩ := KRow.pushed PgG.keeps R2.out R1.out R3.out R4.out R5.out HB4.out H4.out rfl HOK.out ho hg hp; have KR1 := Lib.hid kr1; have HG1 := Lib.hid hg1; clear ho hg hp kr1 hg1)
        go_roundw
        case rel =>
          have hkr := R2.out
          refine ⟨q + 1, by omega, by go_num, Blk.grown X0.out HG1.out (fun e => by have := hkr _ e.symm; omega), Blk.grown X1.out HG1.out (fun e => by have := hkr _ e.symm; omega), ?_, below_grownBy HBR.out HBR.out.size HG1.out (fun b hb => by have := hkr b hb; omega), ?_⟩
          · rw [HRT.out]
            exact KR1.out
          · have := HG1.out.size
            omega
        case measure => simp [intOf]; omega
      · have e2 : (xk == 3) = false := by rw [beq_eq_false_iff_ne]; exact h2
        rw [if_neg h2, List.append_nil] at HRT
        clear HC
        go_wp2
        go_roundw
        case rel =>
          have hA : Below wr.heap.size wr (wr.alloc (.cells #[.int .i64 xk, .int .i64 xd, .slice xA xn xc, .slice xK xm xc'] 25)) := (Below.refl _ _).alloc (Nat.le_refl _) _
          refine ⟨q + 1, by omega, by go_num, X0.out.alloc _, X1.out.alloc _, ?_, HBR.out.trans (hA.mono HBR.out.size), by simp; omega⟩
          rw [HRT.out]
          exact KRow.keep PgG.keeps ⟨css2, R1.out, R2.out, R3.out, R4.out, R5.out⟩ (fun b _ hl => hA.block b hl) (fun b hb _ => hb)
        case measure => simp [intOf]; omega
    · obtain rfl : m = q := by omega
      rw [List.take_of_length_le (by rw [HEM.out]; exact Nat.le_refl _)] at kr
      have hml : ((ks.map newT).filter (keepT 6)).length ≤ 100000 := Nat.le_trans (List.length_filter_le _ _) (by rw [List.length_map]; omega)
      have hok : ∀ t ∈ (ks.map newT).filter (keepT 6), OkT t := fun t ht => by
        obtain ⟨u, hu, rfl⟩ := List.mem_map.1 (List.mem_filter.1 ht).1
        exact (ok_newT u (by have := sz_mem hu; omega)).2.2
      generalize (ks.map newT).filter (keepT 6) = ts at *
      obtain ⟨A1, n1, c1, rfl, hl1⟩ := row_shape kr
      have c0 := x1.cell 0
      have c1' := x1.cell 1
      have z0 := x1.frozen 0
      have z1 := x1.frozen 1
      have d1 := x0.cell 1
      simp at c0 c1' d1
      have X1 := Lib.hid x1
      have HBR := Lib.hid hbr
      have HOK := Lib.hid hok
      have HL1 := Lib.hid hl1
      have KR := Lib.hid kr
      by_cases h0 : n1 = 0
      · subst h0
        obtain rfl : ts = [] := List.eq_nil_of_length_eq_zero hl1
        have HT2 : Hid (T = .mk 6 (d % 4) [] []) := Lib.hid (by rw [← HPT.out]; unfold partsT; rw [if_pos rfl])
        clear HPT
        have hdim := dimOf_any d wr
        have hforce := MyForce_raw (ok := fun b => W.heap.size + 2 ≤ b) (A := none) (n := 0) (c := 0) (d % 4) q0 q1 0 wr (KRow.nil wr _) rfl (by simp) (by omega)
        generalize d % 4 = dq at *
        have HD := Lib.hid hdim
        have HF := Lib.hid hforce
        clear hdim hforce hok hl1 kr x1 hbr
        go_wp2_with fail
        refine HD.out.mono ?_
        rintro e w4 ⟨rfl, rfl⟩
        go_wp2_with fail
        refine HF.out.mono ?_
        rintro e w5 ⟨yA, yn, yc, yq, rfl, h5, b5⟩
        have x5 := X1.out.below b5 X1.out.lt
        have y0 := x5.frozen 0
        have y1 := x5.frozen 1
        have v0 := x5.cell 0
        have v1 := x5.cell 1
        simp at v0 v1
        have e0 : (w5.setCell ⟨W.heap.size + 1, 0, none⟩ (.slice yA yn yc)).cell? ⟨W.heap.size + 1, 0, none⟩ = some (.slice yA yn yc) := by simpa using (x5.set_ 0 (.slice yA yn yc)).cell 0
        have e1 : ((w5.setCell ⟨W.heap.size + 1, 0, none⟩ (.slice yA yn yc)).setCell ⟨W.heap.size + 1, 1, none⟩ (.int .u8 yq)).cell? ⟨W.heap.size + 1, 1, none⟩ = some (.int .u8 yq) := by simpa using ((x5.set_ 0 (.slice yA yn yc)).set_ 1 (.int .u8 yq)).cell 1
        have H5 := Lib.hid h5
        have B5 := Lib.hid b5
        clear h5 b5 x5
        go_wp2
        refine bodyPost_ret (by simp [results, Tryz.results78, go_sem, e0, e1]; try rfl) rfl ?_
        rw [HT2.out]
        refine ⟨yA, yn, yc, yq, rfl, MyG.keeps _ _ _ _ _ _ H5.out (fun b hb _ => ?_) (fun b hb _ => by omega), ?_⟩
        · have hne : b ≠ W.heap.size + 1 := by omega
          rw [Below.heap_setCell _ _ _ b hne, Below.heap_setCell _ _ _ b hne]
        · exact below_setCell' (below_setCell' (HBR.out.trans (B5.out.mono HBR.out.size)) (Nat.le_succ _) _) (Nat.le_succ _) _
      · have hne : ((n1 : Int) == 0) = false := by rw [beq_eq_false_iff_ne]; omega
        have hts : ts ≠ [] := fun e => by rw [e] at hl1; simp at hl1; omega
        have HT2 : Hid (T = .mk 6 (ctF ts) [] (ts.map (forceT (ctF ts)))) := Lib.hid (by rw [← HPT.out]; unfold partsT; rw [if_neg hts, forceT_mk, row_force_nil]; rfl)
        clear HPT
        have hnew := NewMultiPolygon_G wr kr hl1 hok (by omega) (by omega)
        generalize Gm.mk 6 (ctF ts) [] (ts.map (forceT (ctF ts))) = T2 at *
        have HF := Lib.hid hnew
        clear hnew hok hl1 kr x1 hbr
        go_wp2_with fail
        refine HF.out.mono ?_
        rintro e w5 ⟨yA, yn, yc, yq, rfl, h5, b5⟩
        have x5 := X1.out.below b5 X1.out.lt
        have y0 := x5.frozen 0
        have y1 := x5.frozen 1
        have v0 := x5.cell 0
        have v1 := x5.cell 1
        simp at v0 v1
        have e0 : (w5.setCell ⟨W.heap.size + 1, 0, none⟩ (.slice yA yn yc)).cell? ⟨W.heap.size + 1, 0, none⟩ = some (.slice yA yn yc) := by simpa using (x5.set_ 0 (.slice yA yn yc)).cell 0
        have e1 : ((w5.setCell ⟨W.heap.size + 1, 0, none⟩ (.slice yA yn yc)).setCell ⟨W.heap.size + 1, 1, none⟩ (.int .u8 yq)).cell? ⟨W.heap.size + 1, 1, none⟩ = some (.int .u8 yq) := by simpa using ((x5.set_ 0 (.slice yA yn yc)).set_ 1 (.int .u8 yq)).cell 1
        have H5 := Lib.hid h5
        have B5 := Lib.hid b5
        clear h5 b5 x5
        go_wp2
        refine bodyPost_ret (by simp [results, Tryz.results78, go_sem, e0, e1]; try rfl) rfl ?_
        rw [HT2.out]
        refine ⟨yA, yn, yc, yq, rfl, MyG.keeps _ _ _ _ _ _ H5.out (fun b hb _ => ?_) (fun b hb _ => by omega), ?_⟩
        · have hne : b ≠ W.heap.size + 1 := by omega
          rw [Below.heap_setCell _ _ _ b hne, Below.heap_setCell _ _ _ b hne]
        · exact below_setCell' (below_setCell' (HBR.out.trans (B5.out.mono HBR.out.size)) (Nat.le_succ _) _) (Nat.le_succ _) _

end Go.Proofs.YtpbcfgehmalppaaGreatDoor

/- Texts of geometries of parts. -/
namespace Go.Proofs.YtpbcfgehmalppaaGreatDoor
open Go.RowKit Go.Proofs.YtpbcfgehmalppaaGreatDoorW.PrintLast

attribute [local go_sem] run_store_float

set_option maxHeartbeats 8000000 in
set_option maxRecDepth 100000 in
theorem MyWkt_G {ok : Nat → Prop} {A : Option Addr} {n c : Nat} {q : Int} {t : Gm} (hi lo : Nat → Int) (w : World) (h : MyG w ok [.slice A n c, .int .u8 q] t) (ho : OkT t) (v : Value) (bs : List Int) (hv : Own w v bs) (ht : FtTabs w hi lo)
    (hrow : ∀ k, k < 7 → v.ownBlock ≠ some k) (hokv : ∀ b, ok b → b < w.heap.size → v.ownBlock ≠ some b) (hl : bs.length + 10000 * t.np ≤ 60000000000000) :
    Calls Tryz.prog 85 #[.agg #[.slice A n c, .int .u8 q], v] w fun e w' => ∃ v', e = .returned v' ∧ Bf w w' v.ownBlock v' (bs ++ wktT hi lo t) := by
  obtain ⟨i0, hi0, hz0, hz1, hz2⟩ := info_parts info_u8
  have hN := RowG.nums (fun _ _ _ _ h => h.nums) h
  obtain ⟨A', n', c', q', ks, rfl, e, q0, q1, hl1, hn, hr⟩ := h
  simp only [List.cons.injEq, Value.slice.injEq, Value.int.injEq, and_true, true_and] at e
  obtain ⟨⟨rfl, rfl, rfl⟩, rfl⟩ := e
  have hNk : ∀ t ∈ ks, NumT t := by cases hN with | mk _ hk => exact hk
  have hOk : ∀ t ∈ ks, OkT t := by cases ho with | mk _ _ _ _ hk => exact hk
  rw [np_mk, show ([] : List Nat).length / wd q = 0 from Nat.zero_div _] at hl
  have hbody := bodyT_row hi lo 6 q ks
  have href := head_ref hi lo (t := .mk 6 q [] ks) q0 q1 bs
  have htl := tagB_len q
  have hnm : strB { data := #[77, 85, 76, 84, 73, 80, 79, 76, 89, 71, 79, 78] } = nameB 6 := rfl
  have hnl := nameB_len 6
  change bs ++ nameB 6 ++ tagB q ++ (sepO (bs ++ nameB 6 ++ tagB q) _ ++ _) = _ at href
  have hjr := fun (k : Nat) (s : Gm) (hk : ks[k]? = some s) => join_room hi lo 6 hNk hk
  have hja := fun (k : Nat) hk => join_all hi lo 6 hNk k hk
  have hgd := fun (k : Nat) (s : Gm) (hk : ks[k]? = some s) => kidsT_getD hi lo 6 hk
  rw [hl1] at hbody
  generalize (ks.map Gm.np).sum = SP at *
  have hb1 : Below w.heap.size w (w.alloc (.cells #[.slice A n c, .int .u8 q] 109)) := (Below.refl _ _).alloc (Nat.le_refl _) _
  have hbox := Blk.new w 109 #[.slice A n c, .int .u8 q]
  have hne : v.ownBlock ≠ some w.heap.size := fun e => by have := (hv.lt _ e).2; omega
  have ho1 : Own (w.alloc (.cells #[.slice A n c, .int .u8 q] 109)) v bs := hv.alloc _
  have ht1 := ht.below hb1
  have hg0 : w.grownBy (w.alloc (.cells #[.slice A n c, .int .u8 q] 109)) none := World.grownBy_alloc w _ none
  have hsz1 : w.heap.size ≤ (w.alloc (.cells #[.slice A n c, .int .u8 q] 109)).heap.size := by simp
  have HD := Lib.hid (header_any { data := #[77, 85, 76, 84, 73, 80, 79, 76, 89, 71, 79, 78] } q q0 q1 (w.alloc (.cells #[.slice A n c, .int .u8 q] 109)) v bs ho1 (by rw [← strB_length, hnm]; omega))
  rw [hnm] at HD
  have r0 := hbox.cell 0
  have r1 := hbox.cell 1
  simp at r0 r1
  have HBX := Lib.hid hbox
  have HB1 := Lib.hid hb1
  have HT := Lib.hid ht1
  have HG0 := Lib.hid hg0
  have HR := Lib.hid hr
  have HL1 := Lib.hid hl1
  have HOK := Lib.hid hOk
  have HBD := Lib.hid hbody
  have HRF := Lib.hid href
  have HJR := Lib.hid hjr
  have HJA := Lib.hid hja
  have HGD := Lib.hid hgd
  have HKV := Lib.hid hokv
  have HOV := Lib.hid ho1
  have HNM := Lib.hid hnm
  clear hbox hb1 ht1 ht hg0 hr hl1 hOk hbody href hjr hja hgd hokv hN hNk ho ho1 hnm hv
  go_enter Tryz.func85, Tryz.ntmps85
  go_wp2_with fail
  refine HD.out.mono ?_
  rintro e w2 ⟨v2, rfl, h2⟩
  have x2 := HBX.out.bf h2 hne
  clear r0 r1
  have r0 := x2.cell 0
  have r1 := x2.cell 1
  simp at r0 r1
  generalize hBS : bs ++ nameB 6 ++ tagB q = BS at *
  have hBSl : BS.length ≤ bs.length + 22 := by rw [← hBS]; simp only [len_app]; omega
  have hBSn : ∃ m, BS.length = m + 1 := by
    refine ⟨BS.length - 1, ?_⟩
    have : 0 < BS.length := by rw [← hBS, len_app, len_app]; have : 0 < (nameB 6).length := by decide
                               omega
    omega
  obtain ⟨nb, hnb⟩ := hBSn
  have HNB := Lib.hid hnb
  have H2 := Lib.hid h2
  clear hBS h2 x2 hnb
  by_cases hn0 : n = 0
  · subst hn0
    rw [if_pos rfl] at HBD
    go_wp2_with fail
    refine (empty_any _ _ BS nb HNB.out (Bf.own_ H2.out) (by omega)).mono ?_
    rintro e w3 ⟨v3, rfl, h3⟩
    have H3 := Lib.hid (H2.out.trans h3)
    clear h3
    go_wp2
    go_ret
    refine ⟨_, rfl, ?_⟩
    have h3 := H3.out.pre_none HG0.out
    rw [sepO_empty, ← HBD.out, HRF.out] at h3
    exact h3
  · have hne0 : ((n : Int) == 0) = false := by rw [beq_eq_false_iff_ne]; omega
    rw [if_neg hn0] at HBD
    have h2 := H2.out
    go_wp2_with ((at_builtin; refine wpList_bf_append1g rfl _ _ _ rfl Tryz.underlying30 hi0 hz0 hz1 hz2 rfl rfl (by assumption) (by first | rfl | simp) (by first | omega | (simp only [len_app, List.length_cons, List.length_nil]; omega)) ?_; intro v1 W1 h1); have x3 := HBX.out.bf h1 hne; have r0 := x3.cell 0; have r1 := x3.cell 1; simp at r0 r1; clear x3)
    have H3 := Lib.hid h1
    clear h1 h2
    go_loopw [1, 23] (fun u i wr => ∃ k : Nat, k ≤ n ∧ i = .int .i64 k ∧ Bf (w.alloc (.cells #[.slice A n c, .int .u8 q] 109)) wr v.ownBlock u (BS ++ [40] ++ joinS 44 (kidsT hi lo 6 ks) k)) (fun _ i _ => n - (intOf i).toNat)
    case atStart => exact ⟨0, Nat.zero_le _, rfl, by simpa [joinS] using H3.out⟩
    case round =>
      obtain ⟨k, hk, rfl, h1⟩ := hrel
      have hjk := HJA.out k (by rw [HL1.out]; exact hk)
      have hwz : w.heap.size + 1 ≤ wr.heap.size := by have := h1.grown.size; simpa using this
      by_cases hlt : k < n
      · obtain ⟨g, x, s, rfl, hgok, hr, hxl, hcl, hrs, hgl⟩ := row_at HL1.out HR.out hlt
        replace hgl := hgl (by decide)
        have hsm : OkT s := HOK.out s (List.mem_of_getElem? hr)
        obtain ⟨rA, rn, rc, rq, rfl, -⟩ := hrs.shape
        have hgv := HKV.out g hgok hgl
        have j0 := cell_at HB1.out h1 hgl hgv (hcl 0 _ rfl)
        have j1 := cell_at HB1.out h1 hgl hgv (hcl 1 _ rfl)
        rw [Nat.add_zero] at j0
        have hstep : joinS 44 (kidsT hi lo 6 ks) (k + 1) = (if 0 < k then joinS 44 (kidsT hi lo 6 ks) k ++ [44] else joinS 44 (kidsT hi lo 6 ks) k) ++ (kidsT hi lo 6 ks).getD k [] := rfl
        rw [HGD.out k s hr] at hstep
        have hroom := HJR.out k s hr
        have hT0 : k = 0 → joinS 44 (kidsT hi lo 6 ks) k = [] := fun h => by rw [h]; rfl
        generalize joinS 44 (kidsT hi lo 6 ks) k = T at *
        have hlk : (BS ++ [40] ++ T).length + 10000 * s.np + 1 ≤ 60000000000000 := by simp only [len_app, List.length_cons, List.length_nil]; omega
        have HST := Lib.hid hstep
        have HRS := Lib.hid hrs
        have HSM := Lib.hid hsm
        generalize hBT : BS ++ [40] ++ T = BT at *
        have HBT := Lib.hid hBT
        have hA : Below wr.heap.size wr (wr.alloc (.cells #[.slice rA rn rc, .int .u8 rq] 63)) := (Below.refl _ _).alloc (Nat.le_refl _) _
        have hu : u1.ownBlock ≠ some wr.heap.size := fun e => by have := (h1.own.lt _ e).2; omega
        have hlb := Blk.new wr 63 #[.slice rA rn rc, .int .u8 rq]
        have H1 := Lib.hid (h1.below hA)
        have HLB := Lib.hid hlb
        clear hstep hrs hcl hr hBT hsm h1 hA
        by_cases hk0 : 0 < k
        · have hd : decide (0 < (k : Int)) = true := decide_eq_true (by omega)
          rw [if_pos hk0] at HST
          have h1 := Bf.start H1.out.own
          go_wp2_with ((at_builtin; refine wpList_bf_append1g rfl _ _ _ rfl Tryz.underlying30 hi0 hz0 hz1 hz2 rfl rfl (by assumption) (by first | rfl | simp) (by first | omega | (simp only [len_app, List.length_cons, List.length_nil]; omega)) ?_; intro v1 W1 h1); have hlb1 := HLB.out.bf h1 hu; have l0 := hlb1.cell 0; have l1 := hlb1.cell 1; simp at l0 l1; clear hlb1)
          have HC := Lib.hid (H1.out.trans h1)
          clear h1
          with_reducible refine (PgIn_G 6 (by decide) hi lo _ (rel_at PgG.keeps HB1.out HC.out HKV.out (fun b h => h.1) HRS.out) HSM.out _ (BT ++ [44]) (opensB_44 BT) (Bf.own_ HC.out) (HT.out.of_bf HC.out hrow) (place_row HC.out hrow HT.out.siz) (place_ok HC.out HKV.out hsz1) (by first | omega | (simp only [len_app, List.length_cons, List.length_nil]; omega))).mono ?_
          rintro e w5 ⟨v5, rfl, h5⟩
          have H5 := Lib.hid (HC.out.trans h5)
          clear h5
          go_wp2
          go_roundw
          case rel =>
            refine ⟨k + 1, by omega, by go_num, ?_⟩
            rw [HST.out]
            have h5 := H5.out
            rw [← HBT.out] at h5
            simpa [List.append_assoc] using h5
          case measure => simp [intOf]; omega
        · obtain rfl : k = 0 := by omega
          have hd : decide (0 < ((0 : Nat) : Int)) = false := rfl
          rw [if_neg hk0] at HST
          have hop : opensB BT := by rw [← HBT.out, hT0 rfl, List.append_nil]; exact opensB_40 BS
          have HC := H1
          go_wp2_with fail
          with_reducible refine (PgIn_G 6 (by decide) hi lo _ (rel_at PgG.keeps HB1.out HC.out HKV.out (fun b h => h.1) HRS.out) HSM.out _ BT (hop) (Bf.own_ HC.out) (HT.out.of_bf HC.out hrow) (place_row HC.out hrow HT.out.siz) (place_ok HC.out HKV.out hsz1) (by first | omega | (simp only [len_app, List.length_cons, List.length_nil]; omega))).mono ?_
          rintro e w5 ⟨v5, rfl, h5⟩
          have H5 := Lib.hid (HC.out.trans h5)
          clear h5
          go_wp2
          go_roundw
          case rel =>
            refine ⟨1, by omega, by go_num, ?_⟩
            rw [HST.out]
            have h5 := H5.out
            rw [← HBT.out] at h5
            simpa [List.append_assoc] using h5
          case measure => simp [intOf]; omega
      · obtain rfl : n = k := by omega
        have hlk : (BS ++ [40] ++ joinS 44 (kidsT hi lo 6 ks) n).length ≤ 60000000000000 := by simp only [len_app, List.length_cons, List.length_nil]; omega
        generalize hBT : BS ++ [40] ++ joinS 44 (kidsT hi lo 6 ks) n = BT at *
        have HBT := Lib.hid hBT
        clear hBT
        go_wp2_with (at_builtin; refine wpList_bf_append1g rfl _ _ _ rfl Tryz.underlying30 hi0 hz0 hz1 hz2 rfl rfl (by assumption) (by first | rfl | simp) (by first | omega | (simp only [len_app, List.length_cons, List.length_nil]; omega)) ?_; intro v1 W1 h1)
        go_ret
        refine ⟨_, rfl, ?_⟩
        have h3 := h1.pre_none HG0.out
        have e : BT ++ [41] = bs ++ wktT hi lo (.mk 6 q [] ks) := by
          rw [← HRF.out, HBD.out, List.append_assoc [40], sepO_list, ← HBT.out]
          simp [List.append_assoc]
        rw [e] at h3
        exact h3

end Go.Proofs.YtpbcfgehmalppaaGreatDoor
