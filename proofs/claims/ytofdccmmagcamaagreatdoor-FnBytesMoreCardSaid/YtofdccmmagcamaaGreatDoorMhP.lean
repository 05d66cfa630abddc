import Derived.Test.YtofdccmmagcamaaGreatDoorMhU
import Derived.Test.YtofdccmmagcamaaGreatDoorMhI
import Derived.Test.YtofdccmmagcamaaGreatDoorMhK
import Derived.Deep.Cut
/- The parser of bytes: a row of parts. -/
set_option maxHeartbeats 8000000
set_option linter.unusedSimpArgs false
set_option linter.unusedVariables false
namespace Go.Proofs.YtofdccmmagcamaaGreatDoor
open Go.RowKit

attribute [local go_sem] run_store_float

set_option maxRecDepth 100000 in
theorem parsePolygon_any {W : World} {B p : Nat} (big : Bool) {D : Int} {ks : List Gm} {bs : List Int} (d0 : 0 ≤ D) (d1 : D ≤ 3) (hB : B ≤ W.heap.size) (hw : ∀ t ∈ ks, Wf D t) (hk2 : ∀ t ∈ ks, t.k = 2) (hn : ∀ t ∈ ks, NumT t) (hs : (ks.map Gm.np).sum ≤ 100000) (h : Wp W B p (if big then 0 else 1) (!big) (uB big 4 ks.length ++ ((ks.map (lineB big)).flatten ++ bs))) :
    Calls Tryz.prog 181 #[.pointer (some ⟨p, 0, none⟩), .int .u8 D] W fun e w' => ∃ (A : Option Addr) (m c : Nat) (q : Int), e = .returned (.tuple #[.agg #[.slice A m c, .int .u8 q], .nilIface]) ∧ PgG w' (fun b => W.heap.size ≤ b) [.slice A m c, .int .u8 q] (.mk 3 D [] ks) ∧ Wp w' B p (if big then 0 else 1) (!big) bs ∧ W.grownBy w' (some p) := by
  obtain ⟨i0, hi0, hz0, hz1, hz2⟩ := info_parts info_ls
  obtain ⟨n, hn0⟩ : ∃ n, n = ks.length := ⟨_, rfl⟩
  have hsl : ∀ ts : List Gm, ts.length ≤ (ts.map Gm.np).sum := fun ts => by
    induction ts with
    | nil => simp
    | cons t ts ih =>
      have h1 : 1 ≤ t.np := by cases t; rw [np_mk, Nat.add_assoc]; exact Nat.le_add_right _ _
      simp only [List.length_cons, List.map_cons, List.sum_cons]
      omega
  have hnl := hsl ks
  rw [← hn0] at h hnl
  have hnm : n ≤ 100000 := by omega
  have hlr := h.lt
  have hbw : Below W.heap.size W (W.alloc (.cells #[.slice none 0 0, .int .u8 0] 60)) := (Below.refl _ _).alloc (Nat.le_refl _) _
  have X0 := Hd (Blk.new W 60 #[.slice none 0 0, .int .u8 0])
  have HBW := Hd hbw
  have HN := Hd hn0.symm
  have HWF := Hd hw
  have HOK : Hid (∀ t ∈ ks, OkT t) := Hd (fun t ht => ok_of_wf d0 d1 (hw t ht) (by have := np_mem ht; omega))
  have HK2 := Hd hk2
  have HNT := Hd hn
  have HU := Hd (parseUint32_any big n (by omega) (h.keep hbw))
  have HPL : Hid (∀ (w : World) (t : Gm) (r : List Int), B ≤ w.heap.size → t ∈ ks → Wp w B p (if big then 0 else 1) (!big) (lineB big t ++ r) → Calls Tryz.prog 180 #[.pointer (some ⟨p, 0, none⟩), .int .u8 D] w fun e w' => ∃ (A : Option Addr) (m c : Nat), e = .returned (.tuple #[.agg #[.int .u8 D, .slice A m c], .nilIface]) ∧ LsG w' (fun b => w.heap.size ≤ b) [.int .u8 D, .slice A m c] t ∧ Wp w' B p (if big then 0 else 1) (!big) r ∧ w.grownBy w' (some p)) := Hd (fun w t r hb ht hp => parseLine_any big hb d0 d1 (hw t ht) (hk2 t ht) (hn t ht) (by have := np_mem ht; omega) hp)
  have hmk : ∀ w : World, (Instr.makeSlice 57 (.int .u32 (n : Int)) (.int .u32 (n : Int))).run Tryz.prog w = .ok (.slice (some ⟨w.heap.size, 0, none⟩) n n) (w.alloc (.cells (madeCells #[.int .u8 0, .slice none 0 0] (n * 2)) 89)) := fun w => by
    have h := run_make_rowN (P := Tryz.prog) 57 89 i0 (.agg #[.int .u8 0, .slice none 0 0]) Tryz.underlying57 hi0 hz0 .u32 .u32 n n (Nat.le_refl _) (by rw [hz2]; omega) (by omega) w
    rw [hz1] at h
    exact h
  generalize (if big = true then (0 : Int) else 1) = bo at *
  clear h hw hbw hs hnl hsl hn0 hk2 hn
  generalize (!big) = no at *
  by_cases hz : n = 0
  · have hd : ((n : Int) == 0) = true := by rw [hz]; rfl
    have HKS : Hid (ks = []) := Hd (List.eq_nil_of_length_eq_zero (by rw [HN.out, hz]))
    clear hz hmk
    go_enter Tryz.func181, Tryz.ntmps181
    go_wp2_with fail
    refine HU.out.mono ?_
    rintro e w2 ⟨rfl, h2, g2⟩
    have X2 := Hd (X0.out.grown g2 (by intro e; injection e with e; omega))
    have G2 := Hd (World.grownBy.trans (only_of_below HBW.out (some p)) g2)
    have s2 : W.heap.size + 1 ≤ w2.heap.size := by have := g2.size; simpa using this
    have H2 : Hid (Wp w2 B p bo no bs) := Hd (by have h := h2; rw [HKS.out] at h; exact h)
    have HFO := Hd (PgForce_raw D d0 d1 (ok := fun b => W.heap.size + 1 ≤ b) (A := none) (n := 0) (c := 0) 0 w2 (KRow.nil _ _) rfl (by simp) (by omega))
    clear h2 g2
    go_wp2_with fail
    refine HFO.out.mono ?_
    rintro e v9 ⟨yA, yn, yc, yq, rfl, h9, b9⟩
    have r9 := X2.out.below b9 X2.out.lt
    have HW9 := Hd (H2.out.keep b9)
    have G9 := Hd (G2.out.trans (only_of_below b9 _))
    have H9 : Hid (PgG v9 (fun b => W.heap.size + 1 ≤ b) [.slice yA yn yc, .int .u8 yq] (.mk 3 D [] ks)) := Hd (by
      rw [HKS.out]
      exact PgG.keeps _ _ _ _ _ _ h9 (fun _ _ _ => rfl) (fun b hb _ => by omega))
    clear h9 b9
    have e0 : (v9.setCell ⟨W.heap.size, 0, none⟩ (.slice yA yn yc)).cell? ⟨W.heap.size, 0, none⟩ = some (.slice yA yn yc) := by simpa using (r9.set_ 0 (.slice yA yn yc)).cell 0
    have e1 : ((v9.setCell ⟨W.heap.size, 0, none⟩ (.slice yA yn yc)).setCell ⟨W.heap.size, 1, none⟩ (.int .u8 yq)).cell? ⟨W.heap.size, 1, none⟩ = some (.int .u8 yq) := by simpa using ((r9.set_ 0 (.slice yA yn yc)).set_ 1 (.int .u8 yq)).cell 1
    have z0 := r9.frozen 0
    have z1 := r9.frozen 1
    have y0 := r9.cell 0
    have y1 := r9.cell 1
    simp at y0 y1
    clear r9
    go_wp2
    refine bodyPost_ret (by simp [results, Tryz.results181, go_sem, e0, e1]; try rfl) rfl ?_
    refine ⟨yA, yn, yc, yq, rfl, PgG.keeps _ _ _ _ _ _ H9.out (fun b hb _ => ?_) (fun b hb _ => ?_), HW9.out.under (below_two v9 W.heap.size _ _) hlr, grown_under G9.out (below_two v9 W.heap.size _ _) (Nat.le_refl _)⟩
    · rw [Below.heap_setCell _ _ _ b (by show b ≠ W.heap.size; omega), Below.heap_setCell _ _ _ b (by show b ≠ W.heap.size; omega)]
    · omega
  · have hd : ((n : Int) == 0) = false := by rw [beq_eq_false_iff_ne]; omega
    have hn1 : 0 < n := by omega
    go_enter Tryz.func181, Tryz.ntmps181
    go_wp2_with fail
    refine HU.out.mono ?_
    rintro e w2 ⟨rfl, h2, g2⟩
    obtain ⟨css, ho3, hf3⟩ := row_made (R := LsG) (sz := 2) (e := 89) (w := w2) (ok := fun b => w2.heap.size + 1 ≤ b) (ts := ks) (n := n) (cur := madeCells #[.int .u8 0, .slice none 0 0] (n * 2)) HN.out (size_madeCells _ _) hnm
    have X3 := Hd ((X0.out.grown g2 (by intro e; injection e with e; omega)).alloc (.cells (madeCells #[.int .u8 0, .slice none 0 0] (n * 2)) 89))
    have G3 := Hd (only_alloc (World.grownBy.trans (only_of_below HBW.out (some p)) g2) (.cells (madeCells #[.int .u8 0, .slice none 0 0] (n * 2)) 89))
    have s2 : W.heap.size + 1 ≤ w2.heap.size := by have := g2.size; simpa using this
    have H3 := Hd (h2.keep ((Below.refl w2.heap.size w2).alloc (Nat.le_refl _) (.cells (madeCells #[.int .u8 0, .slice none 0 0] (n * 2)) 89)))
    have hs3 : w2.heap.size + 1 ≤ (w2.alloc (.cells (madeCells #[.int .u8 0, .slice none 0 0] (n * 2)) 89)).heap.size := by rw [World.size_alloc]; exact Nat.le_refl _
    have HO3 := Hd ho3
    have HF3 := Hd hf3
    clear h2 g2 ho3 hf3 X0 HU HBW
    go_wp2_with fail
    generalize (w2.alloc (.cells (madeCells #[.int .u8 0, .slice none 0 0] (n * 2)) 89)) = w3 at *
    generalize w2.heap.size = gr at *
    go_loopw [28] (fun i wr => ∃ (q : Nat) (cs : List (List Value)), q ≤ n ∧ i = .int .i64 q ∧ wr.ownsRow 0 89 2 (.slice (some ⟨gr, 0, none⟩) n n) n cs.flatten ∧ FillG LsG 2 wr (fun b => gr + 1 ≤ b) ks q cs ∧ Wp wr B p bo no (((ks.drop q).map (lineB big)).flatten ++ bs) ∧ W.grownBy wr (some p) ∧ Blk wr W.heap.size 60 #[.slice none 0 0, .int .u8 0] ∧ gr + 1 ≤ wr.heap.size) (fun i _ => n - (intOf i).toNat)
    case atStart => exact ⟨0, css, Nat.zero_le _, rfl, HO3.out, HF3.out, by simpa using H3.out, G3.out, X3.out, hs3⟩
    case round =>
      obtain ⟨q, cs, hq, rfl, ow, md, hw4, g4, x4, s4⟩ := hrel
      by_cases hlt : q < n
      · have htq : ks[q]? = some (ks[q]'(by rw [HN.out]; exact hlt)) := List.getElem?_eq_getElem _
        have htm : (ks[q]'(by rw [HN.out]; exact hlt)) ∈ ks := List.getElem_mem _
        generalize (ks[q]'(by rw [HN.out]; exact hlt)) = s at htq htm
        rw [lines_drop big ks q htq bs] at hw4
        have hsW : W.heap.size ≤ wr.heap.size := by omega
        have HC := Hd (HPL.out wr s _ (by omega) htm hw4)
        have hclen : q < cs.length := by rw [md.1, HN.out]; exact hlt
        have hck : cs[q]? = some (cs[q]'hclen) := List.getElem?_eq_getElem _
        generalize (cs[q]'hclen) = z at hck
        obtain ⟨za, zb, rfl⟩ := list2 (md.2.1 z (List.mem_of_getElem? hck))
        have ad' : ∀ g j : Nat, (⟨g, 0, none⟩ : Addr).add j = ⟨g, j, none⟩ := fun g j => by unfold Addr.add; split <;> simp_all
        have k0 := ow.cells (g := gr) rfl (q * 2 + 0) za (by rw [flat_at md.2.1 hck (by omega)]; rfl)
        rw [ad'] at k0
        have k1 := ow.cells (g := gr) rfl (q * 2 + 1) zb (by rw [flat_at md.2.1 hck (by omega)]; rfl)
        rw [ad'] at k1
        rw [Nat.add_zero] at k0
        have OW := Hd ow
        have MD := Hd md
        have G4 := Hd g4
        have X4 := Hd x4
        have HTQ := Hd htq
        clear ow md g4 x4 hw4 hck htq ad'
        go_wp2_with fail
        refine HC.out.mono ?_
        rintro e w5 ⟨A5, m5, c5, rfl, h5, hw5, g5⟩
        have hgl5 : gr < wr.heap.size := by omega
        have hne5 : some gr ≠ some p := by intro e; injection e with e; omega
        have o5 : w5.ownsRow 0 89 2 (.slice (some ⟨gr, 0, none⟩) n n) n cs.flatten := own_keep OW.out (fun b hb hl => g5.block b hl (by intro e; have hb' : gr = b := Option.some.inj hb; injection e with e; omega))
        have y0 := own_frozen o5 (g := gr) rfl (q * 2)
        have q0 := (World.cell?_of_block (a := ⟨gr, q * 2, none⟩) (g5.block gr hgl5 hne5)).trans k0
        have y1 := own_frozen o5 (g := gr) rfl (q * 2 + 1)
        have q1 := (World.cell?_of_block (a := ⟨gr, q * 2 + 1, none⟩) (g5.block gr hgl5 hne5)).trans k1
        have H5 := Hd (LsG.keeps _ w5 _ (fun b => gr + 1 ≤ b) _ _ h5 (fun _ _ _ => rfl) (fun b hb _ => by omega))
        have O5 := Hd o5
        have G5 := Hd g5
        have HW5 := Hd hw5
        have s5 := g5.size
        clear o5 h5 g5 hw5 hgl5 hne5 k0 k1
        go_wp2
        go_roundw
        case rel =>
          have hheap : ∀ b, b ≠ gr → ((w5.setCell ⟨gr, q * 2, none⟩ (.int .u8 D)).setCell ⟨gr, q * 2 + 1, none⟩ (.slice A5 m5 c5)).heap[b]? = w5.heap[b]? := fun b hb => by
            rw [Below.heap_setCell _ _ _ b hb, Below.heap_setCell _ _ _ b hb]
          have hfl : cs.flatten.length = n * 2 := OW.out.1
          have hbl : Below gr w5 ((w5.setCell ⟨gr, q * 2, none⟩ (.int .u8 D)).setCell ⟨gr, q * 2 + 1, none⟩ (.slice A5 m5 c5)) := (below_setCell' (below_setCell' (Below.refl gr w5) (p := ⟨gr, q * 2, none⟩) (Nat.le_refl _) (.int .u8 D)) (p := ⟨gr, q * 2 + 1, none⟩) (Nat.le_refl _) (.slice A5 m5 c5))
          refine ⟨q + 1, cs.set q [.int .u8 D, .slice A5 m5 c5], by omega, by first | go_num | (congr 1; show IntKind.u32.wrap ((q : Int) + 1) = ((q + 1 : Nat) : Int); rw [IntKind.wrap_u32]; omega), ?_, FillG.next (FillG.keep LsG.keeps MD.out (fun b hb hl => (hheap b (by omega)).trans (G5.out.block b hl (by intro e; injection e with e; omega))) (fun b hb _ => hb)) HTQ.out rfl (LsG.keeps _ _ _ _ _ _ H5.out (fun b hb _ => hheap b (by omega)) (fun b hb _ => hb)), HW5.out.under hbl (by omega), grown_under (G4.out.trans G5.out) hbl (by omega), ?_, by have := hbl.size; omega⟩
          · rw [flat_set2 MD.out.2.1 hclen]
            exact own_store (own_store (O5.out) rfl (by rw [hfl]; omega) _) rfl (by simp only [List.length_set]; rw [hfl]; omega) _
          · exact (X4.out.grown G5.out (by intro e; injection e with e; omega)).below hbl (by omega)
        case measure => first | (simp [intOf]; omega) | (show n - (intOf (.int .u32 (IntKind.u32.wrap ((q : Int) + 1)))).toNat < n - (intOf (.int .u32 (q : Int))).toNat; rw [IntKind.wrap_u32, show ((q : Int) + 1) % 4294967296 = ((q + 1 : Nat) : Int) by omega]; show n - ((q + 1 : Nat) : Int).toNat < n - (q : Int).toNat; rw [Int.toNat_natCast, Int.toNat_natCast]; omega)
      · obtain rfl : n = q := by omega
        have HROW : Hid (KRow LsG 89 2 wr (fun b => gr ≤ b) (.slice (some ⟨gr, 0, none⟩) n n) ks) := Hd (FillG.row LsG.keeps md HN.out ow (fun b hb => ⟨by omega, by omega⟩) (Nat.le_refl _))
        have HNEW := Hd (NewPolygon_G wr HROW.out HN.out HOK.out hnm hn1)
        have H4 : Hid (Wp wr B p bo no bs) := Hd (by
          have e1 : ks.drop n = [] := List.drop_eq_nil_of_le (by rw [HN.out]; exact Nat.le_refl _)
          rw [e1] at hw4
          exact hw4)
        have HSAME : Hid (Gm.mk 3 (ctF ks) [] (ks.map (forceT (ctF ks))) = .mk 3 D [] ks) := Hd (parts_same d0 d1 HWF.out (fun e => by rw [e] at HN; have := HN.out; simp at this; omega))
        have X4 := Hd x4
        have G4 := Hd g4
        clear ow md hw4 g4 x4
        go_wp2_with fail
        refine HNEW.out.mono ?_
        rintro e v9 ⟨yA, yn, yc, yq, rfl, h9, b9⟩
        rw [HSAME.out] at h9
        have r9 := X4.out.below b9 X4.out.lt
        have HW9 := Hd (H4.out.keep b9)
        have G9 := Hd (G4.out.trans (only_of_below b9 _))
        have H9 : Hid (PgG v9 (fun b => W.heap.size + 1 ≤ b) [.slice yA yn yc, .int .u8 yq] (.mk 3 D [] ks)) := Hd (PgG.keeps _ _ _ _ _ _ h9 (fun _ _ _ => rfl) (fun b hb _ => by omega))
        clear h9 b9
        have e0 : (v9.setCell ⟨W.heap.size, 0, none⟩ (.slice yA yn yc)).cell? ⟨W.heap.size, 0, none⟩ = some (.slice yA yn yc) := by simpa using (r9.set_ 0 (.slice yA yn yc)).cell 0
        have e1 : ((v9.setCell ⟨W.heap.size, 0, none⟩ (.slice yA yn yc)).setCell ⟨W.heap.size, 1, none⟩ (.int .u8 yq)).cell? ⟨W.heap.size, 1, none⟩ = some (.int .u8 yq) := by simpa using ((r9.set_ 0 (.slice yA yn yc)).set_ 1 (.int .u8 yq)).cell 1
        have z0 := r9.frozen 0
        have z1 := r9.frozen 1
        have y0 := r9.cell 0
        have y1 := r9.cell 1
        simp at y0 y1
        clear r9
        go_wp2
        refine bodyPost_ret (by simp [results, Tryz.results181, go_sem, e0, e1]; try rfl) rfl ?_
        refine ⟨yA, yn, yc, yq, rfl, PgG.keeps _ _ _ _ _ _ H9.out (fun b hb _ => ?_) (fun b hb _ => ?_), HW9.out.under (below_two v9 W.heap.size _ _) hlr, grown_under G9.out (below_two v9 W.heap.size _ _) (Nat.le_refl _)⟩
        · rw [Below.heap_setCell _ _ _ b (by show b ≠ W.heap.size; omega), Below.heap_setCell _ _ _ b (by show b ≠ W.heap.size; omega)]
        · omega

end Go.Proofs.YtofdccmmagcamaaGreatDoor

/- The parser of bytes: a row of parts. -/
set_option maxHeartbeats 8000000
set_option linter.unusedSimpArgs false
set_option linter.unusedVariables false
namespace Go.Proofs.YtofdccmmagcamaaGreatDoor
open Go.RowKit

attribute [local go_sem] run_store_float

set_option maxRecDepth 100000 in
theorem parseMultiPoint_any {W : World} {B p : Nat} {bo : Int} {no : Bool} (big : Bool) {D : Int} {ks : List Gm} {os : List Bool} {bs : List Int} (d0 : 0 ≤ D) (d1 : D ≤ 3) (hB : B ≤ W.heap.size) (hw : ∀ t ∈ ks, Wf D t) (hk2 : ∀ t ∈ ks, t.k = 1) (hs : (ks.map Gm.np).sum ≤ 100000) (ih : ∀ t ∈ ks, RunAt t) (hbo : bo = if big then 0 else 1) (h : Wp W B p bo no (uB big 4 ks.length ++ ((wkbsT ks os).1 ++ bs))) :
    Calls Tryz.prog 182 #[.pointer (some ⟨p, 0, none⟩), .int .u8 D] W fun e w' => ∃ (A : Option Addr) (m c : Nat) (q : Int), e = .returned (.tuple #[.agg #[.slice A m c, .int .u8 q], .nilIface]) ∧ MpG w' (fun b => W.heap.size ≤ b) [.slice A m c, .int .u8 q] (.mk 4 D [] ks) ∧ Wp w' B p bo no bs ∧ W.grownBy w' (some p) := by
  obtain ⟨i0, hi0, hz0, hz1, hz2⟩ := info_parts info_pt
  obtain ⟨n, hn0⟩ : ∃ n, n = ks.length := ⟨_, rfl⟩
  have hsl : ∀ ts : List Gm, ts.length ≤ (ts.map Gm.np).sum := fun ts => by
    induction ts with
    | nil => simp
    | cons t ts ih =>
      have h1 : 1 ≤ t.np := by cases t; rw [np_mk, Nat.add_assoc]; exact Nat.le_add_right _ _
      simp only [List.length_cons, List.map_cons, List.sum_cons]
      omega
  have hnl := hsl ks
  rw [← hn0] at h hnl
  have hnm : n ≤ 100000 := by omega
  have hlr := h.lt
  have hbw : Below W.heap.size W (W.alloc (.cells #[.slice none 0 0, .int .u8 0] 114)) := (Below.refl _ _).alloc (Nat.le_refl _) _
  have X0 := Hd (Blk.new W 114 #[.slice none 0 0, .int .u8 0])
  have HBW := Hd hbw
  have HN := Hd hn0.symm
  have HWF := Hd hw
  have HOK : Hid (∀ t ∈ ks, OkT t) := Hd (fun t ht => ok_of_wf d0 d1 (hw t ht) (by have := np_mem ht; omega))
  have HK2 := Hd hk2
  have HI := Hd ih
  subst hbo
  have HU := Hd (parseUint32_any big n (by omega) (h.keep hbw))
  have hmk : ∀ w : World, (Instr.makeSlice 112 (.int .u32 (n : Int)) (.int .u32 (n : Int))).run Tryz.prog w = .ok (.slice (some ⟨w.heap.size, 0, none⟩) n n) (w.alloc (.cells (madeCells #[.float .f64 0, .float .f64 0, .float .f64 0, .float .f64 0, .int .u8 0, .bool false] (n * 6)) 109)) := fun w => by
    have h := run_make_rowN (P := Tryz.prog) 112 109 i0 (.agg #[.float .f64 0, .float .f64 0, .float .f64 0, .float .f64 0, .int .u8 0, .bool false]) Tryz.underlying112 hi0 hz0 .u32 .u32 n n (Nat.le_refl _) (by rw [hz2]; omega) (by omega) w
    rw [hz1] at h
    exact h
  generalize (if big = true then (0 : Int) else 1) = bo at *
  clear h hw hbw hs hnl hsl hn0 hk2 ih
  by_cases hz : n = 0
  · have hd : ((n : Int) == 0) = true := by rw [hz]; rfl
    have HKS : Hid (ks = []) := Hd (List.eq_nil_of_length_eq_zero (by rw [HN.out, hz]))
    clear hz hmk
    go_enter Tryz.func182, Tryz.ntmps182
    go_wp2_with fail
    refine HU.out.mono ?_
    rintro e w2 ⟨rfl, h2, g2⟩
    have X2 := Hd (X0.out.grown g2 (by intro e; injection e with e; omega))
    have G2 := Hd (World.grownBy.trans (only_of_below HBW.out (some p)) g2)
    have s2 : W.heap.size + 1 ≤ w2.heap.size := by have := g2.size; simpa using this
    have H2 : Hid (Wp w2 B p bo no bs) := Hd (by have h := h2; rw [HKS.out] at h; exact h)
    have HFO := Hd (MpForce_raw D d0 d1 (ok := fun b => W.heap.size + 1 ≤ b) (A := none) (n := 0) (c := 0) 0 w2 (KRow.nil _ _) rfl (by simp) (by omega))
    clear h2 g2
    go_wp2_with fail
    refine HFO.out.mono ?_
    rintro e v9 ⟨yA, yn, yc, yq, rfl, h9, b9⟩
    have r9 := X2.out.below b9 X2.out.lt
    have HW9 := Hd (H2.out.keep b9)
    have G9 := Hd (G2.out.trans (only_of_below b9 _))
    have H9 : Hid (MpG v9 (fun b => W.heap.size + 1 ≤ b) [.slice yA yn yc, .int .u8 yq] (.mk 4 D [] ks)) := Hd (by
      rw [HKS.out]
      exact MpG.keeps _ _ _ _ _ _ h9 (fun _ _ _ => rfl) (fun b hb _ => by omega))
    clear h9 b9
    have e0 : (v9.setCell ⟨W.heap.size, 0, none⟩ (.slice yA yn yc)).cell? ⟨W.heap.size, 0, none⟩ = some (.slice yA yn yc) := by simpa using (r9.set_ 0 (.slice yA yn yc)).cell 0
    have e1 : ((v9.setCell ⟨W.heap.size, 0, none⟩ (.slice yA yn yc)).setCell ⟨W.heap.size, 1, none⟩ (.int .u8 yq)).cell? ⟨W.heap.size, 1, none⟩ = some (.int .u8 yq) := by simpa using ((r9.set_ 0 (.slice yA yn yc)).set_ 1 (.int .u8 yq)).cell 1
    have z0 := r9.frozen 0
    have z1 := r9.frozen 1
    have y0 := r9.cell 0
    have y1 := r9.cell 1
    simp at y0 y1
    clear r9
    go_wp2
    refine bodyPost_ret (by simp [results, Tryz.results182, go_sem, e0, e1]; try rfl) rfl ?_
    refine ⟨yA, yn, yc, yq, rfl, MpG.keeps _ _ _ _ _ _ H9.out (fun b hb _ => ?_) (fun b hb _ => ?_), HW9.out.under (below_two v9 W.heap.size _ _) hlr, grown_under G9.out (below_two v9 W.heap.size _ _) (Nat.le_refl _)⟩
    · rw [Below.heap_setCell _ _ _ b (by show b ≠ W.heap.size; omega), Below.heap_setCell _ _ _ b (by show b ≠ W.heap.size; omega)]
    · omega
  · have hd : ((n : Int) == 0) = false := by rw [beq_eq_false_iff_ne]; omega
    have hn1 : 0 < n := by omega
    go_enter Tryz.func182, Tryz.ntmps182
    go_wp2_with fail
    refine HU.out.mono ?_
    rintro e w2 ⟨rfl, h2, g2⟩
    obtain ⟨css, ho3, hf3⟩ := row_made (R := PtG) (sz := 6) (e := 109) (w := w2) (ok := fun b => w2.heap.size + 1 ≤ b) (ts := ks) (n := n) (cur := madeCells #[.float .f64 0, .float .f64 0, .float .f64 0, .float .f64 0, .int .u8 0, .bool false] (n * 6)) HN.out (size_madeCells _ _) hnm
    have X3 := Hd ((X0.out.grown g2 (by intro e; injection e with e; omega)).alloc (.cells (madeCells #[.float .f64 0, .float .f64 0, .float .f64 0, .float .f64 0, .int .u8 0, .bool false] (n * 6)) 109))
    have G3 := Hd (only_alloc (World.grownBy.trans (only_of_below HBW.out (some p)) g2) (.cells (madeCells #[.float .f64 0, .float .f64 0, .float .f64 0, .float .f64 0, .int .u8 0, .bool false] (n * 6)) 109))
    have s2 : W.heap.size + 1 ≤ w2.heap.size := by have := g2.size; simpa using this
    have H3 := Hd (h2.keep ((Below.refl w2.heap.size w2).alloc (Nat.le_refl _) (.cells (madeCells #[.float .f64 0, .float .f64 0, .float .f64 0, .float .f64 0, .int .u8 0, .bool false] (n * 6)) 109)))
    have hs3 : w2.heap.size + 1 ≤ (w2.alloc (.cells (madeCells #[.float .f64 0, .float .f64 0, .float .f64 0, .float .f64 0, .int .u8 0, .bool false] (n * 6)) 109)).heap.size := by rw [World.size_alloc]; exact Nat.le_refl _
    have HO3 := Hd ho3
    have HF3 := Hd hf3
    clear h2 g2 ho3 hf3 X0 HU HBW
    go_wp2_with fail
    generalize (w2.alloc (.cells (madeCells #[.float .f64 0, .float .f64 0, .float .f64 0, .float .f64 0, .int .u8 0, .bool false] (n * 6)) 109)) = w3 at *
    generalize w2.heap.size = gr at *
    go_loopw [9] (fun i wr => ∃ (q : Nat) (cs : List (List Value)), q ≤ n ∧ i = .int .u32 q ∧ wr.ownsRow 0 109 6 (.slice (some ⟨gr, 0, none⟩) n n) n cs.flatten ∧ FillG PtG 6 wr (fun b => gr + 1 ≤ b) ks q cs ∧ Wp wr B p bo no ((wkbsT (ks.drop q) (wkbsT (ks.take q) os).2).1 ++ bs) ∧ W.grownBy wr (some p) ∧ Blk wr W.heap.size 114 #[.slice none 0 0, .int .u8 0] ∧ gr + 1 ≤ wr.heap.size) (fun i _ => n - (intOf i).toNat)
    case atStart => exact ⟨0, css, Nat.zero_le _, rfl, HO3.out, HF3.out, by simpa [wkbsT] using H3.out, G3.out, X3.out, hs3⟩
    case round =>
      obtain ⟨q, cs, hq, rfl, ow, md, hw4, g4, x4, s4⟩ := hrel
      by_cases hlt : q < n
      · have htq : ks[q]? = some (ks[q]'(by rw [HN.out]; exact hlt)) := List.getElem?_eq_getElem _
        have htm : (ks[q]'(by rw [HN.out]; exact hlt)) ∈ ks := List.getElem_mem _
        generalize (ks[q]'(by rw [HN.out]; exact hlt)) = s at htq htm
        rw [wkbsT_drop ks os q htq bs] at hw4
        have hsW : W.heap.size ≤ wr.heap.size := by omega
        have HC := Hd (inner_of (HI.out s htm) wr B p _ _ _ _ hw4 (by omega))
        have hclen : q < cs.length := by rw [md.1, HN.out]; exact hlt
        have hck : cs[q]? = some (cs[q]'hclen) := List.getElem?_eq_getElem _
        generalize (cs[q]'hclen) = z at hck
        obtain ⟨za, zb, zc, zd, ze, zf, rfl⟩ := list6 (md.2.1 z (List.mem_of_getElem? hck))
        have ad' : ∀ g j : Nat, (⟨g, 0, none⟩ : Addr).add j = ⟨g, j, none⟩ := fun g j => by unfold Addr.add; split <;> simp_all
        have k0 := ow.cells (g := gr) rfl (q * 6 + 0) za (by rw [flat_at md.2.1 hck (by omega)]; rfl)
        rw [ad'] at k0
        have k1 := ow.cells (g := gr) rfl (q * 6 + 1) zb (by rw [flat_at md.2.1 hck (by omega)]; rfl)
        rw [ad'] at k1
        have k2 := ow.cells (g := gr) rfl (q * 6 + 2) zc (by rw [flat_at md.2.1 hck (by omega)]; rfl)
        rw [ad'] at k2
        have k3 := ow.cells (g := gr) rfl (q * 6 + 3) zd (by rw [flat_at md.2.1 hck (by omega)]; rfl)
        rw [ad'] at k3
        have k4 := ow.cells (g := gr) rfl (q * 6 + 4) ze (by rw [flat_at md.2.1 hck (by omega)]; rfl)
        rw [ad'] at k4
        have k5 := ow.cells (g := gr) rfl (q * 6 + 5) zf (by rw [flat_at md.2.1 hck (by omega)]; rfl)
        rw [ad'] at k5
        rw [Nat.add_zero] at k0
        have OW := Hd ow
        have MD := Hd md
        have G4 := Hd g4
        have X4 := Hd x4
        have HTQ := Hd htq
        clear ow md g4 x4 hw4 hck htq ad'
        go_wp2_with fail
        refine HC.out.mono ?_
        rintro e w6 ⟨yq, yT, ya, rfl, h6, hw6, g6⟩
        obtain ⟨rfl, rfl, ycs, hy6, ha6, hb6⟩ := geo_pt h6 (HK2.out s htm)
        obtain ⟨yx, yy, yz, ym, yd, yf, rfl, -⟩ := hy6.shape
        have B6 := Hd (hb6.alloc (.cells #[.int .i64 1, .iface 128 (.pointer (some ⟨ya, 0, none⟩))] 68))
        have b67 : Below w6.heap.size w6 (w6.alloc (.cells #[.int .i64 1, .iface 128 (.pointer (some ⟨ya, 0, none⟩))] 68)) := (Below.refl _ _).alloc (Nat.le_refl _) _
        have s6 : wr.heap.size ≤ w6.heap.size := g6.size
        have ha7 := hb6.lt
        have H6 := Hd hy6
        have HW6 := Hd hw6
        have G6 := Hd g6
        have s67 : (w6.alloc (.cells #[.int .i64 1, .iface 128 (.pointer (some ⟨ya, 0, none⟩))] 68)).heap.size = w6.heap.size + 1 := World.size_alloc _ _
        clear h6 hw6 g6 hb6 hy6
        go_wp2_with fail
        refine (IsPt_any _ _).mono ?_
        rintro e w7 ⟨rfl, b7⟩
        have B7 := Hd (B6.out.below b7 B6.out.lt)
        have hgb := (Blk.new w6 68 #[.int .i64 1, .iface 128 (.pointer (some ⟨ya, 0, none⟩))]).below b7 (by rw [s67]; omega)
        have m0 := hgb.cell 0
        have m1 := hgb.cell 1
        simp at m0 m1
        clear hgb
        go_wp2_with fail
        refine (MustPt yx yy yz ym yd yf ya _ B7.out).mono ?_
        rintro e w5 ⟨rfl, b5⟩
        have b65 : Below w6.heap.size w6 w5 := (b67.trans (b7.mono (by rw [s67]; omega))).trans (b5.mono (by have := b7.size; rw [s67] at this; omega))
        have hw5 := HW6.out.keep b65
        have g5 := G6.out.trans (only_of_below b65 (some p))
        have h5 : PtG w5 (fun b => wr.heap.size ≤ b) [.float .f64 yx, .float .f64 yy, .float .f64 yz, .float .f64 ym, .int .u8 yd, .bool yf] s := PtG.keeps _ _ _ _ _ _ H6.out (fun b _ hl => b65.block b hl) (fun b hb _ => hb)
        clear m0 m1 b67 b7 b5 b65
        have hgl5 : gr < wr.heap.size := by omega
        have hne5 : some gr ≠ some p := by intro e; injection e with e; omega
        have o5 : w5.ownsRow 0 109 6 (.slice (some ⟨gr, 0, none⟩) n n) n cs.flatten := own_keep OW.out (fun b hb hl => g5.block b hl (by intro e; have hb' : gr = b := Option.some.inj hb; injection e with e; omega))
        have y0 := own_frozen o5 (g := gr) rfl (q * 6)
        have q0 := (World.cell?_of_block (a := ⟨gr, q * 6, none⟩) (g5.block gr hgl5 hne5)).trans k0
        have y1 := own_frozen o5 (g := gr) rfl (q * 6 + 1)
        have q1 := (World.cell?_of_block (a := ⟨gr, q * 6 + 1, none⟩) (g5.block gr hgl5 hne5)).trans k1
        have y2 := own_frozen o5 (g := gr) rfl (q * 6 + 2)
        have q2 := (World.cell?_of_block (a := ⟨gr, q * 6 + 2, none⟩) (g5.block gr hgl5 hne5)).trans k2
        have y3 := own_frozen o5 (g := gr) rfl (q * 6 + 3)
        have q3 := (World.cell?_of_block (a := ⟨gr, q * 6 + 3, none⟩) (g5.block gr hgl5 hne5)).trans k3
        have y4 := own_frozen o5 (g := gr) rfl (q * 6 + 4)
        have q4 := (World.cell?_of_block (a := ⟨gr, q * 6 + 4, none⟩) (g5.block gr hgl5 hne5)).trans k4
        have y5 := own_frozen o5 (g := gr) rfl (q * 6 + 5)
        have q5 := (World.cell?_of_block (a := ⟨gr, q * 6 + 5, none⟩) (g5.block gr hgl5 hne5)).trans k5
        have H5 := Hd (PtG.keeps _ w5 _ (fun b => gr + 1 ≤ b) _ _ h5 (fun _ _ _ => rfl) (fun b hb _ => by omega))
        have O5 := Hd o5
        have G5 := Hd g5
        have HW5 := Hd hw5
        have s5 := g5.size
        clear o5 h5 g5 hw5 hgl5 hne5 k0 k1 k2 k3 k4 k5
        go_wp2
        go_roundw
        case rel =>
          have hheap : ∀ b, b ≠ gr → ((((((w5.setCell ⟨gr, q * 6, none⟩ (.float .f64 yx)).setCell ⟨gr, q * 6 + 1, none⟩ (.float .f64 yy)).setCell ⟨gr, q * 6 + 2, none⟩ (.float .f64 yz)).setCell ⟨gr, q * 6 + 3, none⟩ (.float .f64 ym)).setCell ⟨gr, q * 6 + 4, none⟩ (.int .u8 yd)).setCell ⟨gr, q * 6 + 5, none⟩ (.bool yf)).heap[b]? = w5.heap[b]? := fun b hb => by
            rw [Below.heap_setCell _ _ _ b hb, Below.heap_setCell _ _ _ b hb, Below.heap_setCell _ _ _ b hb, Below.heap_setCell _ _ _ b hb, Below.heap_setCell _ _ _ b hb, Below.heap_setCell _ _ _ b hb]
          have hfl : cs.flatten.length = n * 6 := OW.out.1
          have hbl : Below gr w5 ((((((w5.setCell ⟨gr, q * 6, none⟩ (.float .f64 yx)).setCell ⟨gr, q * 6 + 1, none⟩ (.float .f64 yy)).setCell ⟨gr, q * 6 + 2, none⟩ (.float .f64 yz)).setCell ⟨gr, q * 6 + 3, none⟩ (.float .f64 ym)).setCell ⟨gr, q * 6 + 4, none⟩ (.int .u8 yd)).setCell ⟨gr, q * 6 + 5, none⟩ (.bool yf)) := (below_setCell' (below_setCell' (below_setCell' (below_setCell' (below_setCell' (below_setCell' (Below.refl gr w5) (p := ⟨gr, q * 6, none⟩) (Nat.le_refl _) (.float .f64 yx)) (p := ⟨gr, q * 6 + 1, none⟩) (Nat.le_refl _) (.float .f64 yy)) (p := ⟨gr, q * 6 + 2, none⟩) (Nat.le_refl _) (.float .f64 yz)) (p := ⟨gr, q * 6 + 3, none⟩) (Nat.le_refl _) (.float .f64 ym)) (p := ⟨gr, q * 6 + 4, none⟩) (Nat.le_refl _) (.int .u8 yd)) (p := ⟨gr, q * 6 + 5, none⟩) (Nat.le_refl _) (.bool yf))
          refine ⟨q + 1, cs.set q [.float .f64 yx, .float .f64 yy, .float .f64 yz, .float .f64 ym, .int .u8 yd, .bool yf], by omega, by first | go_num | (congr 1; show IntKind.u32.wrap ((q : Int) + 1) = ((q + 1 : Nat) : Int); rw [IntKind.wrap_u32]; omega), ?_, FillG.next (FillG.keep PtG.keeps MD.out (fun b hb hl => (hheap b (by omega)).trans (G5.out.block b hl (by intro e; injection e with e; omega))) (fun b hb _ => hb)) HTQ.out rfl (PtG.keeps _ _ _ _ _ _ H5.out (fun b hb _ => hheap b (by omega)) (fun b hb _ => hb)), HW5.out.under hbl (by omega), grown_under (G4.out.trans G5.out) hbl (by omega), ?_, by have := hbl.size; omega⟩
          · rw [flat_set6 MD.out.2.1 hclen]
            exact own_store (own_store (own_store (own_store (own_store (own_store (O5.out) rfl (by rw [hfl]; omega) _) rfl (by simp only [List.length_set]; rw [hfl]; omega) _) rfl (by simp only [List.length_set]; rw [hfl]; omega) _) rfl (by simp only [List.length_set]; rw [hfl]; omega) _) rfl (by simp only [List.length_set]; rw [hfl]; omega) _) rfl (by simp only [List.length_set]; rw [hfl]; omega) _
          · exact (X4.out.grown G5.out (by intro e; injection e with e; omega)).below hbl (by omega)
        case measure => first | (simp [intOf]; omega) | (show n - (intOf (.int .u32 (IntKind.u32.wrap ((q : Int) + 1)))).toNat < n - (intOf (.int .u32 (q : Int))).toNat; rw [IntKind.wrap_u32, show ((q : Int) + 1) % 4294967296 = ((q + 1 : Nat) : Int) by omega]; show n - ((q + 1 : Nat) : Int).toNat < n - (q : Int).toNat; rw [Int.toNat_natCast, Int.toNat_natCast]; omega)
      · obtain rfl : n = q := by omega
        have HROW : Hid (KRow PtG 109 6 wr (fun b => gr ≤ b) (.slice (some ⟨gr, 0, none⟩) n n) ks) := Hd (FillG.row PtG.keeps md HN.out ow (fun b hb => ⟨by omega, by omega⟩) (Nat.le_refl _))
        have HNEW := Hd (NewMultiPoint_G wr HROW.out HN.out HOK.out hnm hn1)
        have H4 : Hid (Wp wr B p bo no bs) := Hd (by
          have e1 : ks.drop n = [] := List.drop_eq_nil_of_le (by rw [HN.out]; exact Nat.le_refl _)
          rw [e1] at hw4
          exact hw4)
        have HSAME : Hid (Gm.mk 4 (ctF ks) [] (ks.map (forceT (ctF ks))) = .mk 4 D [] ks) := Hd (parts_same d0 d1 HWF.out (fun e => by rw [e] at HN; have := HN.out; simp at this; omega))
        have X4 := Hd x4
        have G4 := Hd g4
        clear ow md hw4 g4 x4
        go_wp2_with fail
        refine HNEW.out.mono ?_
        rintro e v9 ⟨yA, yn, yc, yq, rfl, h9, b9⟩
        rw [HSAME.out] at h9
        have r9 := X4.out.below b9 X4.out.lt
        have HW9 := Hd (H4.out.keep b9)
        have G9 := Hd (G4.out.trans (only_of_below b9 _))
        have H9 : Hid (MpG v9 (fun b => W.heap.size + 1 ≤ b) [.slice yA yn yc, .int .u8 yq] (.mk 4 D [] ks)) := Hd (MpG.keeps _ _ _ _ _ _ h9 (fun _ _ _ => rfl) (fun b hb _ => by omega))
        clear h9 b9
        have e0 : (v9.setCell ⟨W.heap.size, 0, none⟩ (.slice yA yn yc)).cell? ⟨W.heap.size, 0, none⟩ = some (.slice yA yn yc) := by simpa using (r9.set_ 0 (.slice yA yn yc)).cell 0
        have e1 : ((v9.setCell ⟨W.heap.size, 0, none⟩ (.slice yA yn yc)).setCell ⟨W.heap.size, 1, none⟩ (.int .u8 yq)).cell? ⟨W.heap.size, 1, none⟩ = some (.int .u8 yq) := by simpa using ((r9.set_ 0 (.slice yA yn yc)).set_ 1 (.int .u8 yq)).cell 1
        have z0 := r9.frozen 0
        have z1 := r9.frozen 1
        have y0 := r9.cell 0
        have y1 := r9.cell 1
        simp at y0 y1
        clear r9
        go_wp2
        refine bodyPost_ret (by simp [results, Tryz.results182, go_sem, e0, e1]; try rfl) rfl ?_
        refine ⟨yA, yn, yc, yq, rfl, MpG.keeps _ _ _ _ _ _ H9.out (fun b hb _ => ?_) (fun b hb _ => ?_), HW9.out.under (below_two v9 W.heap.size _ _) hlr, grown_under G9.out (below_two v9 W.heap.size _ _) (Nat.le_refl _)⟩
        · rw [Below.heap_setCell _ _ _ b (by show b ≠ W.heap.size; omega), Below.heap_setCell _ _ _ b (by show b ≠ W.heap.size; omega)]
        · omega

end Go.Proofs.YtofdccmmagcamaaGreatDoor

/- The parser of bytes: a row of parts. -/
set_option maxHeartbeats 8000000
set_option linter.unusedSimpArgs false
set_option linter.unusedVariables false
namespace Go.Proofs.YtofdccmmagcamaaGreatDoor
open Go.RowKit

attribute [local go_sem] run_store_float

set_option maxRecDepth 100000 in
theorem parseMultiLineString_any {W : World} {B p : Nat} {bo : Int} {no : Bool} (big : Bool) {D : Int} {ks : List Gm} {os : List Bool} {bs : List Int} (d0 : 0 ≤ D) (d1 : D ≤ 3) (hB : B ≤ W.heap.size) (hw : ∀ t ∈ ks, Wf D t) (hk2 : ∀ t ∈ ks, t.k = 2) (hs : (ks.map Gm.np).sum ≤ 100000) (ih : ∀ t ∈ ks, RunAt t) (hbo : bo = if big then 0 else 1) (h : Wp W B p bo no (uB big 4 ks.length ++ ((wkbsT ks os).1 ++ bs))) :
    Calls Tryz.prog 183 #[.pointer (some ⟨p, 0, none⟩), .int .u8 D] W fun e w' => ∃ (A : Option Addr) (m c : Nat) (q : Int), e = .returned (.tuple #[.agg #[.slice A m c, .int .u8 q], .nilIface]) ∧ MlG w' (fun b => W.heap.size ≤ b) [.slice A m c, .int .u8 q] (.mk 5 D [] ks) ∧ Wp w' B p bo no bs ∧ W.grownBy w' (some p) := by
  obtain ⟨i0, hi0, hz0, hz1, hz2⟩ := info_parts info_ls
  obtain ⟨n, hn0⟩ : ∃ n, n = ks.length := ⟨_, rfl⟩
  have hsl : ∀ ts : List Gm, ts.length ≤ (ts.map Gm.np).sum := fun ts => by
    induction ts with
    | nil => simp
    | cons t ts ih =>
      have h1 : 1 ≤ t.np := by cases t; rw [np_mk, Nat.add_assoc]; exact Nat.le_add_right _ _
      simp only [List.length_cons, List.map_cons, List.sum_cons]
      omega
  have hnl := hsl ks
  rw [← hn0] at h hnl
  have hnm : n ≤ 100000 := by omega
  have hlr := h.lt
  have hbw : Below W.heap.size W (W.alloc (.cells #[.slice none 0 0, .int .u8 0] 117)) := (Below.refl _ _).alloc (Nat.le_refl _) _
  have X0 := Hd (Blk.new W 117 #[.slice none 0 0, .int .u8 0])
  have HBW := Hd hbw
  have HN := Hd hn0.symm
  have HWF := Hd hw
  have HOK : Hid (∀ t ∈ ks, OkT t) := Hd (fun t ht => ok_of_wf d0 d1 (hw t ht) (by have := np_mem ht; omega))
  have HK2 := Hd hk2
  have HI := Hd ih
  subst hbo
  have HU := Hd (parseUint32_any big n (by omega) (h.keep hbw))
  have hmk : ∀ w : World, (Instr.makeSlice 57 (.int .u32 (n : Int)) (.int .u32 (n : Int))).run Tryz.prog w = .ok (.slice (some ⟨w.heap.size, 0, none⟩) n n) (w.alloc (.cells (madeCells #[.int .u8 0, .slice none 0 0] (n * 2)) 89)) := fun w => by
    have h := run_make_rowN (P := Tryz.prog) 57 89 i0 (.agg #[.int .u8 0, .slice none 0 0]) Tryz.underlying57 hi0 hz0 .u32 .u32 n n (Nat.le_refl _) (by rw [hz2]; omega) (by omega) w
    rw [hz1] at h
    exact h
  generalize (if big = true then (0 : Int) else 1) = bo at *
  clear h hw hbw hs hnl hsl hn0 hk2 ih
  by_cases hz : n = 0
  · have hd : ((n : Int) == 0) = true := by rw [hz]; rfl
    have HKS : Hid (ks = []) := Hd (List.eq_nil_of_length_eq_zero (by rw [HN.out, hz]))
    clear hz hmk
    go_enter Tryz.func183, Tryz.ntmps183
    go_wp2_with fail
    refine HU.out.mono ?_
    rintro e w2 ⟨rfl, h2, g2⟩
    have X2 := Hd (X0.out.grown g2 (by intro e; injection e with e; omega))
    have G2 := Hd (World.grownBy.trans (only_of_below HBW.out (some p)) g2)
    have s2 : W.heap.size + 1 ≤ w2.heap.size := by have := g2.size; simpa using this
    have H2 : Hid (Wp w2 B p bo no bs) := Hd (by have h := h2; rw [HKS.out] at h; exact h)
    have HFO := Hd (MlForce_raw D d0 d1 (ok := fun b => W.heap.size + 1 ≤ b) (A := none) (n := 0) (c := 0) 0 w2 (KRow.nil _ _) rfl (by simp) (by omega))
    clear h2 g2
    go_wp2_with fail
    refine HFO.out.mono ?_
    rintro e v9 ⟨yA, yn, yc, yq, rfl, h9, b9⟩
    have r9 := X2.out.below b9 X2.out.lt
    have HW9 := Hd (H2.out.keep b9)
    have G9 := Hd (G2.out.trans (only_of_below b9 _))
    have H9 : Hid (MlG v9 (fun b => W.heap.size + 1 ≤ b) [.slice yA yn yc, .int .u8 yq] (.mk 5 D [] ks)) := Hd (by
      rw [HKS.out]
      exact MlG.keeps _ _ _ _ _ _ h9 (fun _ _ _ => rfl) (fun b hb _ => by omega))
    clear h9 b9
    have e0 : (v9.setCell ⟨W.heap.size, 0, none⟩ (.slice yA yn yc)).cell? ⟨W.heap.size, 0, none⟩ = some (.slice yA yn yc) := by simpa using (r9.set_ 0 (.slice yA yn yc)).cell 0
    have e1 : ((v9.setCell ⟨W.heap.size, 0, none⟩ (.slice yA yn yc)).setCell ⟨W.heap.size, 1, none⟩ (.int .u8 yq)).cell? ⟨W.heap.size, 1, none⟩ = some (.int .u8 yq) := by simpa using ((r9.set_ 0 (.slice yA yn yc)).set_ 1 (.int .u8 yq)).cell 1
    have z0 := r9.frozen 0
    have z1 := r9.frozen 1
    have y0 := r9.cell 0
    have y1 := r9.cell 1
    simp at y0 y1
    clear r9
    go_wp2
    refine bodyPost_ret (by simp [results, Tryz.results183, go_sem, e0, e1]; try rfl) rfl ?_
    refine ⟨yA, yn, yc, yq, rfl, MlG.keeps _ _ _ _ _ _ H9.out (fun b hb _ => ?_) (fun b hb _ => ?_), HW9.out.under (below_two v9 W.heap.size _ _) hlr, grown_under G9.out (below_two v9 W.heap.size _ _) (Nat.le_refl _)⟩
    · rw [Below.heap_setCell _ _ _ b (by show b ≠ W.heap.size; omega), Below.heap_setCell _ _ _ b (by show b ≠ W.heap.size; omega)]
    · omega
  · have hd : ((n : Int) == 0) = false := by rw [beq_eq_false_iff_ne]; omega
    have hn1 : 0 < n := by omega
    go_enter Tryz.func183, Tryz.ntmps183
    go_wp2_with fail
    refine HU.out.mono ?_
    rintro e w2 ⟨rfl, h2, g2⟩
    obtain ⟨css, ho3, hf3⟩ := row_made (R := LsG) (sz := 2) (e := 89) (w := w2) (ok := fun b => w2.heap.size + 1 ≤ b) (ts := ks) (n := n) (cur := madeCells #[.int .u8 0, .slice none 0 0] (n * 2)) HN.out (size_madeCells _ _) hnm
    have X3 := Hd ((X0.out.grown g2 (by intro e; injection e with e; omega)).alloc (.cells (madeCells #[.int .u8 0, .slice none 0 0] (n * 2)) 89))
    have G3 := Hd (only_alloc (World.grownBy.trans (only_of_below HBW.out (some p)) g2) (.cells (madeCells #[.int .u8 0, .slice none 0 0] (n * 2)) 89))
    have s2 : W.heap.size + 1 ≤ w2.heap.size := by have := g2.size; simpa using this
    have H3 := Hd (h2.keep ((Below.refl w2.heap.size w2).alloc (Nat.le_refl _) (.cells (madeCells #[.int .u8 0, .slice none 0 0] (n * 2)) 89)))
    have hs3 : w2.heap.size + 1 ≤ (w2.alloc (.cells (madeCells #[.int .u8 0, .slice none 0 0] (n * 2)) 89)).heap.size := by rw [World.size_alloc]; exact Nat.le_refl _
    have HO3 := Hd ho3
    have HF3 := Hd hf3
    clear h2 g2 ho3 hf3 X0 HU HBW
    go_wp2_with fail
    generalize (w2.alloc (.cells (madeCells #[.int .u8 0, .slice none 0 0] (n * 2)) 89)) = w3 at *
    generalize w2.heap.size = gr at *
    go_loopw [9] (fun i wr => ∃ (q : Nat) (cs : List (List Value)), q ≤ n ∧ i = .int .u32 q ∧ wr.ownsRow 0 89 2 (.slice (some ⟨gr, 0, none⟩) n n) n cs.flatten ∧ FillG LsG 2 wr (fun b => gr + 1 ≤ b) ks q cs ∧ Wp wr B p bo no ((wkbsT (ks.drop q) (wkbsT (ks.take q) os).2).1 ++ bs) ∧ W.grownBy wr (some p) ∧ Blk wr W.heap.size 117 #[.slice none 0 0, .int .u8 0] ∧ gr + 1 ≤ wr.heap.size) (fun i _ => n - (intOf i).toNat)
    case atStart => exact ⟨0, css, Nat.zero_le _, rfl, HO3.out, HF3.out, by simpa [wkbsT] using H3.out, G3.out, X3.out, hs3⟩
    case round =>
      obtain ⟨q, cs, hq, rfl, ow, md, hw4, g4, x4, s4⟩ := hrel
      by_cases hlt : q < n
      · have htq : ks[q]? = some (ks[q]'(by rw [HN.out]; exact hlt)) := List.getElem?_eq_getElem _
        have htm : (ks[q]'(by rw [HN.out]; exact hlt)) ∈ ks := List.getElem_mem _
        generalize (ks[q]'(by rw [HN.out]; exact hlt)) = s at htq htm
        rw [wkbsT_drop ks os q htq bs] at hw4
        have hsW : W.heap.size ≤ wr.heap.size := by omega
        have HC := Hd (inner_of (HI.out s htm) wr B p _ _ _ _ hw4 (by omega))
        have hclen : q < cs.length := by rw [md.1, HN.out]; exact hlt
        have hck : cs[q]? = some (cs[q]'hclen) := List.getElem?_eq_getElem _
        generalize (cs[q]'hclen) = z at hck
        obtain ⟨za, zb, rfl⟩ := list2 (md.2.1 z (List.mem_of_getElem? hck))
        have ad' : ∀ g j : Nat, (⟨g, 0, none⟩ : Addr).add j = ⟨g, j, none⟩ := fun g j => by unfold Addr.add; split <;> simp_all
        have k0 := ow.cells (g := gr) rfl (q * 2 + 0) za (by rw [flat_at md.2.1 hck (by omega)]; rfl)
        rw [ad'] at k0
        have k1 := ow.cells (g := gr) rfl (q * 2 + 1) zb (by rw [flat_at md.2.1 hck (by omega)]; rfl)
        rw [ad'] at k1
        rw [Nat.add_zero] at k0
        have OW := Hd ow
        have MD := Hd md
        have G4 := Hd g4
        have X4 := Hd x4
        have HTQ := Hd htq
        clear ow md g4 x4 hw4 hck htq ad'
        go_wp2_with fail
        refine HC.out.mono ?_
        rintro e w6 ⟨yq, yT, ya, rfl, h6, hw6, g6⟩
        obtain ⟨rfl, rfl, ycs, hy6, ha6, hb6⟩ := geo_ls h6 (HK2.out s htm)
        obtain ⟨yd, yA, yn, yc, rfl, -⟩ := hy6.shape
        have B6 := Hd (hb6.alloc (.cells #[.int .i64 2, .iface 129 (.pointer (some ⟨ya, 0, none⟩))] 68))
        have b67 : Below w6.heap.size w6 (w6.alloc (.cells #[.int .i64 2, .iface 129 (.pointer (some ⟨ya, 0, none⟩))] 68)) := (Below.refl _ _).alloc (Nat.le_refl _) _
        have s6 : wr.heap.size ≤ w6.heap.size := g6.size
        have ha7 := hb6.lt
        have H6 := Hd hy6
        have HW6 := Hd hw6
        have G6 := Hd g6
        have s67 : (w6.alloc (.cells #[.int .i64 2, .iface 129 (.pointer (some ⟨ya, 0, none⟩))] 68)).heap.size = w6.heap.size + 1 := World.size_alloc _ _
        clear h6 hw6 g6 hb6 hy6
        go_wp2_with fail
        refine (IsLs_any _ _).mono ?_
        rintro e w7 ⟨rfl, b7⟩
        have B7 := Hd (B6.out.below b7 B6.out.lt)
        have hgb := (Blk.new w6 68 #[.int .i64 2, .iface 129 (.pointer (some ⟨ya, 0, none⟩))]).below b7 (by rw [s67]; omega)
        have m0 := hgb.cell 0
        have m1 := hgb.cell 1
        simp at m0 m1
        clear hgb
        go_wp2_with fail
        refine (MustLs yd yA yn yc ya _ B7.out).mono ?_
        rintro e w5 ⟨rfl, b5⟩
        have b65 : Below w6.heap.size w6 w5 := (b67.trans (b7.mono (by rw [s67]; omega))).trans (b5.mono (by have := b7.size; rw [s67] at this; omega))
        have hw5 := HW6.out.keep b65
        have g5 := G6.out.trans (only_of_below b65 (some p))
        have h5 : LsG w5 (fun b => wr.heap.size ≤ b) [.int .u8 yd, .slice yA yn yc] s := LsG.keeps _ _ _ _ _ _ H6.out (fun b _ hl => b65.block b hl) (fun b hb _ => hb)
        clear m0 m1 b67 b7 b5 b65
        have hgl5 : gr < wr.heap.size := by omega
        have hne5 : some gr ≠ some p := by intro e; injection e with e; omega
        have o5 : w5.ownsRow 0 89 2 (.slice (some ⟨gr, 0, none⟩) n n) n cs.flatten := own_keep OW.out (fun b hb hl => g5.block b hl (by intro e; have hb' : gr = b := Option.some.inj hb; injection e with e; omega))
        have y0 := own_frozen o5 (g := gr) rfl (q * 2)
        have q0 := (World.cell?_of_block (a := ⟨gr, q * 2, none⟩) (g5.block gr hgl5 hne5)).trans k0
        have y1 := own_frozen o5 (g := gr) rfl (q * 2 + 1)
        have q1 := (World.cell?_of_block (a := ⟨gr, q * 2 + 1, none⟩) (g5.block gr hgl5 hne5)).trans k1
        have H5 := Hd (LsG.keeps _ w5 _ (fun b => gr + 1 ≤ b) _ _ h5 (fun _ _ _ => rfl) (fun b hb _ => by omega))
        have O5 := Hd o5
        have G5 := Hd g5
        have HW5 := Hd hw5
        have s5 := g5.size
        clear o5 h5 g5 hw5 hgl5 hne5 k0 k1
        go_wp2
        go_roundw
        case rel =>
          have hheap : ∀ b, b ≠ gr → ((w5.setCell ⟨gr, q * 2, none⟩ (.int .u8 yd)).setCell ⟨gr, q * 2 + 1, none⟩ (.slice yA yn yc)).heap[b]? = w5.heap[b]? := fun b hb => by
            rw [Below.heap_setCell _ _ _ b hb, Below.heap_setCell _ _ _ b hb]
          have hfl : cs.flatten.length = n * 2 := OW.out.1
          have hbl : Below gr w5 ((w5.setCell ⟨gr, q * 2, none⟩ (.int .u8 yd)).setCell ⟨gr, q * 2 + 1, none⟩ (.slice yA yn yc)) := (below_setCell' (below_setCell' (Below.refl gr w5) (p := ⟨gr, q * 2, none⟩) (Nat.le_refl _) (.int .u8 yd)) (p := ⟨gr, q * 2 + 1, none⟩) (Nat.le_refl _) (.slice yA yn yc))
          refine ⟨q + 1, cs.set q [.int .u8 yd, .slice yA yn yc], by omega, by first | go_num | (congr 1; show IntKind.u32.wrap ((q : Int) + 1) = ((q + 1 : Nat) : Int); rw [IntKind.wrap_u32]; omega), ?_, FillG.next (FillG.keep LsG.keeps MD.out (fun b hb hl => (hheap b (by omega)).trans (G5.out.block b hl (by intro e; injection e with e; omega))) (fun b hb _ => hb)) HTQ.out rfl (LsG.keeps _ _ _ _ _ _ H5.out (fun b hb _ => hheap b (by omega)) (fun b hb _ => hb)), HW5.out.under hbl (by omega), grown_under (G4.out.trans G5.out) hbl (by omega), ?_, by have := hbl.size; omega⟩
          · rw [flat_set2 MD.out.2.1 hclen]
            exact own_store (own_store (O5.out) rfl (by rw [hfl]; omega) _) rfl (by simp only [List.length_set]; rw [hfl]; omega) _
          · exact (X4.out.grown G5.out (by intro e; injection e with e; omega)).below hbl (by omega)
        case measure => first | (simp [intOf]; omega) | (show n - (intOf (.int .u32 (IntKind.u32.wrap ((q : Int) + 1)))).toNat < n - (intOf (.int .u32 (q : Int))).toNat; rw [IntKind.wrap_u32, show ((q : Int) + 1) % 4294967296 = ((q + 1 : Nat) : Int) by omega]; show n - ((q + 1 : Nat) : Int).toNat < n - (q : Int).toNat; rw [Int.toNat_natCast, Int.toNat_natCast]; omega)
      · obtain rfl : n = q := by omega
        have HROW : Hid (KRow LsG 89 2 wr (fun b => gr ≤ b) (.slice (some ⟨gr, 0, none⟩) n n) ks) := Hd (FillG.row LsG.keeps md HN.out ow (fun b hb => ⟨by omega, by omega⟩) (Nat.le_refl _))
        have HNEW := Hd (NewMultiLineString_G wr HROW.out HN.out HOK.out hnm hn1)
        have H4 : Hid (Wp wr B p bo no bs) := Hd (by
          have e1 : ks.drop n = [] := List.drop_eq_nil_of_le (by rw [HN.out]; exact Nat.le_refl _)
          rw [e1] at hw4
          exact hw4)
        have HSAME : Hid (Gm.mk 5 (ctF ks) [] (ks.map (forceT (ctF ks))) = .mk 5 D [] ks) := Hd (parts_same d0 d1 HWF.out (fun e => by rw [e] at HN; have := HN.out; simp at this; omega))
        have X4 := Hd x4
        have G4 := Hd g4
        clear ow md hw4 g4 x4
        go_wp2_with fail
        refine HNEW.out.mono ?_
        rintro e v9 ⟨yA, yn, yc, yq, rfl, h9, b9⟩
        rw [HSAME.out] at h9
        have r9 := X4.out.below b9 X4.out.lt
        have HW9 := Hd (H4.out.keep b9)
        have G9 := Hd (G4.out.trans (only_of_below b9 _))
        have H9 : Hid (MlG v9 (fun b => W.heap.size + 1 ≤ b) [.slice yA yn yc, .int .u8 yq] (.mk 5 D [] ks)) := Hd (MlG.keeps _ _ _ _ _ _ h9 (fun _ _ _ => rfl) (fun b hb _ => by omega))
        clear h9 b9
        have e0 : (v9.setCell ⟨W.heap.size, 0, none⟩ (.slice yA yn yc)).cell? ⟨W.heap.size, 0, none⟩ = some (.slice yA yn yc) := by simpa using (r9.set_ 0 (.slice yA yn yc)).cell 0
        have e1 : ((v9.setCell ⟨W.heap.size, 0, none⟩ (.slice yA yn yc)).setCell ⟨W.heap.size, 1, none⟩ (.int .u8 yq)).cell? ⟨W.heap.size, 1, none⟩ = some (.int .u8 yq) := by simpa using ((r9.set_ 0 (.slice yA yn yc)).set_ 1 (.int .u8 yq)).cell 1
        have z0 := r9.frozen 0
        have z1 := r9.frozen 1
        have y0 := r9.cell 0
        have y1 := r9.cell 1
        simp at y0 y1
        clear r9
        go_wp2
        refine bodyPost_ret (by simp [results, Tryz.results183, go_sem, e0, e1]; try rfl) rfl ?_
        refine ⟨yA, yn, yc, yq, rfl, MlG.keeps _ _ _ _ _ _ H9.out (fun b hb _ => ?_) (fun b hb _ => ?_), HW9.out.under (below_two v9 W.heap.size _ _) hlr, grown_under G9.out (below_two v9 W.heap.size _ _) (Nat.le_refl _)⟩
        · rw [Below.heap_setCell _ _ _ b (by show b ≠ W.heap.size; omega), Below.heap_setCell _ _ _ b (by show b ≠ W.heap.size; omega)]
        · omega

end Go.Proofs.YtofdccmmagcamaaGreatDoor

/- The parser of bytes: a row of parts. -/
set_option maxHeartbeats 8000000
set_option linter.unusedSimpArgs false
set_option linter.unusedVariables false
namespace Go.Proofs.YtofdccmmagcamaaGreatDoor
open Go.RowKit

attribute [local go_sem] run_store_float

set_option maxRecDepth 100000 in
theorem parseMultiPolygon_any {W : World} {B p : Nat} {bo : Int} {no : Bool} (big : Bool) {D : Int} {ks : List Gm} {os : List Bool} {bs : List Int} (d0 : 0 ≤ D) (d1 : D ≤ 3) (hB : B ≤ W.heap.size) (hw : ∀ t ∈ ks, Wf D t) (hk2 : ∀ t ∈ ks, t.k = 3) (hs : (ks.map Gm.np).sum ≤ 100000) (ih : ∀ t ∈ ks, RunAt t) (hbo : bo = if big then 0 else 1) (h : Wp W B p bo no (uB big 4 ks.length ++ ((wkbsT ks os).1 ++ bs))) :
    Calls Tryz.prog 184 #[.pointer (some ⟨p, 0, none⟩), .int .u8 D] W fun e w' => ∃ (A : Option Addr) (m c : Nat) (q : Int), e = .returned (.tuple #[.agg #[.slice A m c, .int .u8 q], .nilIface]) ∧ MyG w' (fun b => W.heap.size ≤ b) [.slice A m c, .int .u8 q] (.mk 6 D [] ks) ∧ Wp w' B p bo no bs ∧ W.grownBy w' (some p) := by
  obtain ⟨i0, hi0, hz0, hz1, hz2⟩ := info_parts info_Pg
  obtain ⟨n, hn0⟩ : ∃ n, n = ks.length := ⟨_, rfl⟩
  have hsl : ∀ ts : List Gm, ts.length ≤ (ts.map Gm.np).sum := fun ts => by
    induction ts with
    | nil => simp
    | cons t ts ih =>
      have h1 : 1 ≤ t.np := by cases t; rw [np_mk, Nat.add_assoc]; exact Nat.le_add_right _ _
      simp only [List.length_cons, List.map_cons, List.sum_cons]
      omega
  have hnl := hsl ks
  rw [← hn0] at h hnl
  have hnm : n ≤ 100000 := by omega
  have hlr := h.lt
  have hbw : Below W.heap.size W (W.alloc (.cells #[.slice none 0 0, .int .u8 0] 121)) := (Below.refl _ _).alloc (Nat.le_refl _) _
  have X0 := Hd (Blk.new W 121 #[.slice none 0 0, .int .u8 0])
  have HBW := Hd hbw
  have HN := Hd hn0.symm
  have HWF := Hd hw
  have HOK : Hid (∀ t ∈ ks, OkT t) := Hd (fun t ht => ok_of_wf d0 d1 (hw t ht) (by have := np_mem ht; omega))
  have HK2 := Hd hk2
  have HI := Hd ih
  subst hbo
  have HU := Hd (parseUint32_any big n (by omega) (h.keep hbw))
  have hmk : ∀ w : World, (Instr.makeSlice 119 (.int .u32 (n : Int)) (.int .u32 (n : Int))).run Tryz.prog w = .ok (.slice (some ⟨w.heap.size, 0, none⟩) n n) (w.alloc (.cells (madeCells #[.slice none 0 0, .int .u8 0] (n * 2)) 60)) := fun w => by
    have h := run_make_rowN (P := Tryz.prog) 119 60 i0 (.agg #[.slice none 0 0, .int .u8 0]) Tryz.underlying119 hi0 hz0 .u32 .u32 n n (Nat.le_refl _) (by rw [hz2]; omega) (by omega) w
    rw [hz1] at h
    exact h
  generalize (if big = true then (0 : Int) else 1) = bo at *
  clear h hw hbw hs hnl hsl hn0 hk2 ih
  by_cases hz : n = 0
  · have hd : ((n : Int) == 0) = true := by rw [hz]; rfl
    have HKS : Hid (ks = []) := Hd (List.eq_nil_of_length_eq_zero (by rw [HN.out, hz]))
    clear hz hmk
    go_enter Tryz.func184, Tryz.ntmps184
    go_wp2_with fail
    refine HU.out.mono ?_
    rintro e w2 ⟨rfl, h2, g2⟩
    have X2 := Hd (X0.out.grown g2 (by intro e; injection e with e; omega))
    have G2 := Hd (World.grownBy.trans (only_of_below HBW.out (some p)) g2)
    have s2 : W.heap.size + 1 ≤ w2.heap.size := by have := g2.size; simpa using this
    have H2 : Hid (Wp w2 B p bo no bs) := Hd (by have h := h2; rw [HKS.out] at h; exact h)
    have HFO := Hd (MyForce_raw D d0 d1 (ok := fun b => W.heap.size + 1 ≤ b) (A := none) (n := 0) (c := 0) 0 w2 (KRow.nil _ _) rfl (by simp) (by omega))
    clear h2 g2
    go_wp2_with fail
    refine HFO.out.mono ?_
    rintro e v9 ⟨yA, yn, yc, yq, rfl, h9, b9⟩
    have r9 := X2.out.below b9 X2.out.lt
    have HW9 := Hd (H2.out.keep b9)
    have G9 := Hd (G2.out.trans (only_of_below b9 _))
    have H9 : Hid (MyG v9 (fun b => W.heap.size + 1 ≤ b) [.slice yA yn yc, .int .u8 yq] (.mk 6 D [] ks)) := Hd (by
      rw [HKS.out]
      exact MyG.keeps _ _ _ _ _ _ h9 (fun _ _ _ => rfl) (fun b hb _ => by omega))
    clear h9 b9
    have e0 : (v9.setCell ⟨W.heap.size, 0, none⟩ (.slice yA yn yc)).cell? ⟨W.heap.size, 0, none⟩ = some (.slice yA yn yc) := by simpa using (r9.set_ 0 (.slice yA yn yc)).cell 0
    have e1 : ((v9.setCell ⟨W.heap.size, 0, none⟩ (.slice yA yn yc)).setCell ⟨W.heap.size, 1, none⟩ (.int .u8 yq)).cell? ⟨W.heap.size, 1, none⟩ = some (.int .u8 yq) := by simpa using ((r9.set_ 0 (.slice yA yn yc)).set_ 1 (.int .u8 yq)).cell 1
    have z0 := r9.frozen 0
    have z1 := r9.frozen 1
    have y0 := r9.cell 0
    have y1 := r9.cell 1
    simp at y0 y1
    clear r9
    go_wp2
    refine bodyPost_ret (by simp [results, Tryz.results184, go_sem, e0, e1]; try rfl) rfl ?_
    refine ⟨yA, yn, yc, yq, rfl, MyG.keeps _ _ _ _ _ _ H9.out (fun b hb _ => ?_) (fun b hb _ => ?_), HW9.out.under (below_two v9 W.heap.size _ _) hlr, grown_under G9.out (below_two v9 W.heap.size _ _) (Nat.le_refl _)⟩
    · rw [Below.heap_setCell _ _ _ b (by show b ≠ W.heap.size; omega), Below.heap_setCell _ _ _ b (by show b ≠ W.heap.size; omega)]
    · omega
  · have hd : ((n : Int) == 0) = false := by rw [beq_eq_false_iff_ne]; omega
    have hn1 : 0 < n := by omega
    go_enter Tryz.func184, Tryz.ntmps184
    go_wp2_with fail
    refine HU.out.mono ?_
    rintro e w2 ⟨rfl, h2, g2⟩
    obtain ⟨css, ho3, hf3⟩ := row_made (R := PgG) (sz := 2) (e := 60) (w := w2) (ok := fun b => w2.heap.size + 1 ≤ b) (ts := ks) (n := n) (cur := madeCells #[.slice none 0 0, .int .u8 0] (n * 2)) HN.out (size_madeCells _ _) hnm
    have X3 := Hd ((X0.out.grown g2 (by intro e; injection e with e; omega)).alloc (.cells (madeCells #[.slice none 0 0, .int .u8 0] (n * 2)) 60))
    have G3 := Hd (only_alloc (World.grownBy.trans (only_of_below HBW.out (some p)) g2) (.cells (madeCells #[.slice none 0 0, .int .u8 0] (n * 2)) 60))
    have s2 : W.heap.size + 1 ≤ w2.heap.size := by have := g2.size; simpa using this
    have H3 := Hd (h2.keep ((Below.refl w2.heap.size w2).alloc (Nat.le_refl _) (.cells (madeCells #[.slice none 0 0, .int .u8 0] (n * 2)) 60)))
    have hs3 : w2.heap.size + 1 ≤ (w2.alloc (.cells (madeCells #[.slice none 0 0, .int .u8 0] (n * 2)) 60)).heap.size := by rw [World.size_alloc]; exact Nat.le_refl _
    have HO3 := Hd ho3
    have HF3 := Hd hf3
    clear h2 g2 ho3 hf3 X0 HU HBW
    go_wp2_with fail
    generalize (w2.alloc (.cells (madeCells #[.slice none 0 0, .int .u8 0] (n * 2)) 60)) = w3 at *
    generalize w2.heap.size = gr at *
    go_loopw [9] (fun i wr => ∃ (q : Nat) (cs : List (List Value)), q ≤ n ∧ i = .int .u32 q ∧ wr.ownsRow 0 60 2 (.slice (some ⟨gr, 0, none⟩) n n) n cs.flatten ∧ FillG PgG 2 wr (fun b => gr + 1 ≤ b) ks q cs ∧ Wp wr B p bo no ((wkbsT (ks.drop q) (wkbsT (ks.take q) os).2).1 ++ bs) ∧ W.grownBy wr (some p) ∧ Blk wr W.heap.size 121 #[.slice none 0 0, .int .u8 0] ∧ gr + 1 ≤ wr.heap.size) (fun i _ => n - (intOf i).toNat)
    case atStart => exact ⟨0, css, Nat.zero_le _, rfl, HO3.out, HF3.out, by simpa [wkbsT] using H3.out, G3.out, X3.out, hs3⟩
    case round =>
      obtain ⟨q, cs, hq, rfl, ow, md, hw4, g4, x4, s4⟩ := hrel
      by_cases hlt : q < n
      · have htq : ks[q]? = some (ks[q]'(by rw [HN.out]; exact hlt)) := List.getElem?_eq_getElem _
        have htm : (ks[q]'(by rw [HN.out]; exact hlt)) ∈ ks := List.getElem_mem _
        generalize (ks[q]'(by rw [HN.out]; exact hlt)) = s at htq htm
        rw [wkbsT_drop ks os q htq bs] at hw4
        have hsW : W.heap.size ≤ wr.heap.size := by omega
        have HC := Hd (inner_of (HI.out s htm) wr B p _ _ _ _ hw4 (by omega))
        have hclen : q < cs.length := by rw [md.1, HN.out]; exact hlt
        have hck : cs[q]? = some (cs[q]'hclen) := List.getElem?_eq_getElem _
        generalize (cs[q]'hclen) = z at hck
        obtain ⟨za, zb, rfl⟩ := list2 (md.2.1 z (List.mem_of_getElem? hck))
        have ad' : ∀ g j : Nat, (⟨g, 0, none⟩ : Addr).add j = ⟨g, j, none⟩ := fun g j => by unfold Addr.add; split <;> simp_all
        have k0 := ow.cells (g := gr) rfl (q * 2 + 0) za (by rw [flat_at md.2.1 hck (by omega)]; rfl)
        rw [ad'] at k0
        have k1 := ow.cells (g := gr) rfl (q * 2 + 1) zb (by rw [flat_at md.2.1 hck (by omega)]; rfl)
        rw [ad'] at k1
        rw [Nat.add_zero] at k0
        have OW := Hd ow
        have MD := Hd md
        have G4 := Hd g4
        have X4 := Hd x4
        have HTQ := Hd htq
        clear ow md g4 x4 hw4 hck htq ad'
        go_wp2_with fail
        refine HC.out.mono ?_
        rintro e w6 ⟨yq, yT, ya, rfl, h6, hw6, g6⟩
        obtain ⟨rfl, rfl, ycs, hy6, ha6, hb6⟩ := geo_pg h6 (HK2.out s htm)
        obtain ⟨yA, yn, yc, yd, rfl, -⟩ := hy6.shape
        have B6 := Hd (hb6.alloc (.cells #[.int .i64 3, .iface 130 (.pointer (some ⟨ya, 0, none⟩))] 68))
        have b67 : Below w6.heap.size w6 (w6.alloc (.cells #[.int .i64 3, .iface 130 (.pointer (some ⟨ya, 0, none⟩))] 68)) := (Below.refl _ _).alloc (Nat.le_refl _) _
        have s6 : wr.heap.size ≤ w6.heap.size := g6.size
        have ha7 := hb6.lt
        have H6 := Hd hy6
        have HW6 := Hd hw6
        have G6 := Hd g6
        have s67 : (w6.alloc (.cells #[.int .i64 3, .iface 130 (.pointer (some ⟨ya, 0, none⟩))] 68)).heap.size = w6.heap.size + 1 := World.size_alloc _ _
        clear h6 hw6 g6 hb6 hy6
        go_wp2_with fail
        refine (IsPg_any _ _).mono ?_
        rintro e w7 ⟨rfl, b7⟩
        have B7 := Hd (B6.out.below b7 B6.out.lt)
        have hgb := (Blk.new w6 68 #[.int .i64 3, .iface 130 (.pointer (some ⟨ya, 0, none⟩))]).below b7 (by rw [s67]; omega)
        have m0 := hgb.cell 0
        have m1 := hgb.cell 1
        simp at m0 m1
        clear hgb
        go_wp2_with fail
        refine (MustPg yA yn yc yd ya _ B7.out).mono ?_
        rintro e w5 ⟨rfl, b5⟩
        have b65 : Below w6.heap.size w6 w5 := (b67.trans (b7.mono (by rw [s67]; omega))).trans (b5.mono (by have := b7.size; rw [s67] at this; omega))
        have hw5 := HW6.out.keep b65
        have g5 := G6.out.trans (only_of_below b65 (some p))
        have h5 : PgG w5 (fun b => wr.heap.size ≤ b) [.slice yA yn yc, .int .u8 yd] s := PgG.keeps _ _ _ _ _ _ H6.out (fun b _ hl => b65.block b hl) (fun b hb _ => hb)
        clear m0 m1 b67 b7 b5 b65
        have hgl5 : gr < wr.heap.size := by omega
        have hne5 : some gr ≠ some p := by intro e; injection e with e; omega
        have o5 : w5.ownsRow 0 60 2 (.slice (some ⟨gr, 0, none⟩) n n) n cs.flatten := own_keep OW.out (fun b hb hl => g5.block b hl (by intro e; have hb' : gr = b := Option.some.inj hb; injection e with e; omega))
        have y0 := own_frozen o5 (g := gr) rfl (q * 2)
        have q0 := (World.cell?_of_block (a := ⟨gr, q * 2, none⟩) (g5.block gr hgl5 hne5)).trans k0
        have y1 := own_frozen o5 (g := gr) rfl (q * 2 + 1)
        have q1 := (World.cell?_of_block (a := ⟨gr, q * 2 + 1, none⟩) (g5.block gr hgl5 hne5)).trans k1
        have H5 := Hd (PgG.keeps _ w5 _ (fun b => gr + 1 ≤ b) _ _ h5 (fun _ _ _ => rfl) (fun b hb _ => by omega))
        have O5 := Hd o5
        have G5 := Hd g5
        have HW5 := Hd hw5
        have s5 := g5.size
        clear o5 h5 g5 hw5 hgl5 hne5 k0 k1
        go_wp2
        go_roundw
        case rel =>
          have hheap : ∀ b, b ≠ gr → ((w5.setCell ⟨gr, q * 2, none⟩ (.slice yA yn yc)).setCell ⟨gr, q * 2 + 1, none⟩ (.int .u8 yd)).heap[b]? = w5.heap[b]? := fun b hb => by
            rw [Below.heap_setCell _ _ _ b hb, Below.heap_setCell _ _ _ b hb]
          have hfl : cs.flatten.length = n * 2 := OW.out.1
          have hbl : Below gr w5 ((w5.setCell ⟨gr, q * 2, none⟩ (.slice yA yn yc)).setCell ⟨gr, q * 2 + 1, none⟩ (.int .u8 yd)) := (below_setCell' (below_setCell' (Below.refl gr w5) (p := ⟨gr, q * 2, none⟩) (Nat.le_refl _) (.slice yA yn yc)) (p := ⟨gr, q * 2 + 1, none⟩) (Nat.le_refl _) (.int .u8 yd))
          refine ⟨q + 1, cs.set q [.slice yA yn yc, .int .u8 yd], by omega, by first | go_num | (congr 1; show IntKind.u32.wrap ((q : Int) + 1) = ((q + 1 : Nat) : Int); rw [IntKind.wrap_u32]; omega), ?_, FillG.next (FillG.keep PgG.keeps MD.out (fun b hb hl => (hheap b (by omega)).trans (G5.out.block b hl (by intro e; injection e with e; omega))) (fun b hb _ => hb)) HTQ.out rfl (PgG.keeps _ _ _ _ _ _ H5.out (fun b hb _ => hheap b (by omega)) (fun b hb _ => hb)), HW5.out.under hbl (by omega), grown_under (G4.out.trans G5.out) hbl (by omega), ?_, by have := hbl.size; omega⟩
          · rw [flat_set2 MD.out.2.1 hclen]
            exact own_store (own_store (O5.out) rfl (by rw [hfl]; omega) _) rfl (by simp only [List.length_set]; rw [hfl]; omega) _
          · exact (X4.out.grown G5.out (by intro e; injection e with e; omega)).below hbl (by omega)
        case measure => first | (simp [intOf]; omega) | (show n - (intOf (.int .u32 (IntKind.u32.wrap ((q : Int) + 1)))).toNat < n - (intOf (.int .u32 (q : Int))).toNat; rw [IntKind.wrap_u32, show ((q : Int) + 1) % 4294967296 = ((q + 1 : Nat) : Int) by omega]; show n - ((q + 1 : Nat) : Int).toNat < n - (q : Int).toNat; rw [Int.toNat_natCast, Int.toNat_natCast]; omega)
      · obtain rfl : n = q := by omega
        have HROW : Hid (KRow PgG 60 2 wr (fun b => gr ≤ b) (.slice (some ⟨gr, 0, none⟩) n n) ks) := Hd (FillG.row PgG.keeps md HN.out ow (fun b hb => ⟨by omega, by omega⟩) (Nat.le_refl _))
        have HNEW := Hd (NewMultiPolygon_G wr HROW.out HN.out HOK.out hnm hn1)
        have H4 : Hid (Wp wr B p bo no bs) := Hd (by
          have e1 : ks.drop n = [] := List.drop_eq_nil_of_le (by rw [HN.out]; exact Nat.le_refl _)
          rw [e1] at hw4
          exact hw4)
        have HSAME : Hid (Gm.mk 6 (ctF ks) [] (ks.map (forceT (ctF ks))) = .mk 6 D [] ks) := Hd (parts_same d0 d1 HWF.out (fun e => by rw [e] at HN; have := HN.out; simp at this; omega))
        have X4 := Hd x4
        have G4 := Hd g4
        clear ow md hw4 g4 x4
        go_wp2_with fail
        refine HNEW.out.mono ?_
        rintro e v9 ⟨yA, yn, yc, yq, rfl, h9, b9⟩
        rw [HSAME.out] at h9
        have r9 := X4.out.below b9 X4.out.lt
        have HW9 := Hd (H4.out.keep b9)
        have G9 := Hd (G4.out.trans (only_of_below b9 _))
        have H9 : Hid (MyG v9 (fun b => W.heap.size + 1 ≤ b) [.slice yA yn yc, .int .u8 yq] (.mk 6 D [] ks)) := Hd (MyG.keeps _ _ _ _ _ _ h9 (fun _ _ _ => rfl) (fun b hb _ => by omega))
        clear h9 b9
        have e0 : (v9.setCell ⟨W.heap.size, 0, none⟩ (.slice yA yn yc)).cell? ⟨W.heap.size, 0, none⟩ = some (.slice yA yn yc) := by simpa using (r9.set_ 0 (.slice yA yn yc)).cell 0
        have e1 : ((v9.setCell ⟨W.heap.size, 0, none⟩ (.slice yA yn yc)).setCell ⟨W.heap.size, 1, none⟩ (.int .u8 yq)).cell? ⟨W.heap.size, 1, none⟩ = some (.int .u8 yq) := by simpa using ((r9.set_ 0 (.slice yA yn yc)).set_ 1 (.int .u8 yq)).cell 1
        have z0 := r9.frozen 0
        have z1 := r9.frozen 1
        have y0 := r9.cell 0
        have y1 := r9.cell 1
        simp at y0 y1
        clear r9
        go_wp2
        refine bodyPost_ret (by simp [results, Tryz.results184, go_sem, e0, e1]; try rfl) rfl ?_
        refine ⟨yA, yn, yc, yq, rfl, MyG.keeps _ _ _ _ _ _ H9.out (fun b hb _ => ?_) (fun b hb _ => ?_), HW9.out.under (below_two v9 W.heap.size _ _) hlr, grown_under G9.out (below_two v9 W.heap.size _ _) (Nat.le_refl _)⟩
        · rw [Below.heap_setCell _ _ _ b (by show b ≠ W.heap.size; omega), Below.heap_setCell _ _ _ b (by show b ≠ W.heap.size; omega)]
        · omega

end Go.Proofs.YtofdccmmagcamaaGreatDoor

/- The parser of bytes: a row of parts. -/
set_option maxHeartbeats 8000000
set_option linter.unusedSimpArgs false
set_option linter.unusedVariables false
namespace Go.Proofs.YtofdccmmagcamaaGreatDoor
open Go.RowKit

attribute [local go_sem] run_store_float

set_option maxRecDepth 100000 in
theorem parseGeometryCollection_any {W : World} {B p : Nat} {bo : Int} {no : Bool} (big : Bool) {D : Int} {ks : List Gm} {os : List Bool} {bs : List Int} (d0 : 0 ≤ D) (d1 : D ≤ 3) (hB : B ≤ W.heap.size) (hw : ∀ t ∈ ks, Wf D t) (hs : (ks.map Gm.np).sum ≤ 100000) (ih : ∀ t ∈ ks, RunAt t) (hbo : bo = if big then 0 else 1) (h : Wp W B p bo no (uB big 4 ks.length ++ ((wkbsT ks os).1 ++ bs))) :
    Calls Tryz.prog 185 #[.pointer (some ⟨p, 0, none⟩), .int .u8 D] W fun e w' => ∃ (A : Option Addr) (m c : Nat) (q : Int), e = .returned (.tuple #[.agg #[.slice A m c, .int .u8 q], .nilIface]) ∧ GcG w' (fun b => W.heap.size ≤ b) [.slice A m c, .int .u8 q] (.mk 0 D [] ks) ∧ Wp w' B p bo no bs ∧ W.grownBy w' (some p) := by
  obtain ⟨i0, hi0, hz0, hz1, hz2⟩ := info_parts info_geo
  obtain ⟨n, hn0⟩ : ∃ n, n = ks.length := ⟨_, rfl⟩
  have hsl : ∀ ts : List Gm, ts.length ≤ (ts.map Gm.np).sum := fun ts => by
    induction ts with
    | nil => simp
    | cons t ts ih =>
      have h1 : 1 ≤ t.np := by cases t; rw [np_mk, Nat.add_assoc]; exact Nat.le_add_right _ _
      simp only [List.length_cons, List.map_cons, List.sum_cons]
      omega
  have hnl := hsl ks
  rw [← hn0] at h hnl
  have hnm : n ≤ 100000 := by omega
  have hlr := h.lt
  have hbw : Below W.heap.size W (W.alloc (.cells #[.slice none 0 0, .int .u8 0] 125)) := (Below.refl _ _).alloc (Nat.le_refl _) _
  have X0 := Hd (Blk.new W 125 #[.slice none 0 0, .int .u8 0])
  have HBW := Hd hbw
  have HN := Hd hn0.symm
  have HWF := Hd hw
  have HOK : Hid (∀ t ∈ ks, OkT t) := Hd (fun t ht => ok_of_wf d0 d1 (hw t ht) (by have := np_mem ht; omega))
  have HI := Hd ih
  subst hbo
  have HU := Hd (parseUint32_any big n (by omega) (h.keep hbw))
  have hmk : ∀ w : World, (Instr.makeSlice 123 (.int .u32 (n : Int)) (.int .u32 (n : Int))).run Tryz.prog w = .ok (.slice (some ⟨w.heap.size, 0, none⟩) n n) (w.alloc (.cells (madeCells #[.int .i64 0, .nilIface] (n * 2)) 68)) := fun w => by
    have h := run_make_rowN (P := Tryz.prog) 123 68 i0 (.agg #[.int .i64 0, .nilIface]) Tryz.underlying123 hi0 hz0 .u32 .u32 n n (Nat.le_refl _) (by rw [hz2]; omega) (by omega) w
    rw [hz1] at h
    exact h
  generalize (if big = true then (0 : Int) else 1) = bo at *
  clear h hw hbw hs hnl hsl hn0 ih
  by_cases hz : n = 0
  · have hd : ((n : Int) == 0) = true := by rw [hz]; rfl
    have HKS : Hid (ks = []) := Hd (List.eq_nil_of_length_eq_zero (by rw [HN.out, hz]))
    clear hz hmk
    go_enter Tryz.func185, Tryz.ntmps185
    go_wp2_with fail
    refine HU.out.mono ?_
    rintro e w2 ⟨rfl, h2, g2⟩
    have X2 := Hd (X0.out.grown g2 (by intro e; injection e with e; omega))
    have G2 := Hd (World.grownBy.trans (only_of_below HBW.out (some p)) g2)
    have s2 : W.heap.size + 1 ≤ w2.heap.size := by have := g2.size; simpa using this
    have H2 : Hid (Wp w2 B p bo no bs) := Hd (by have h := h2; rw [HKS.out] at h; exact h)
    have HFO := Hd (GcForce_raw D d0 d1 (ok := fun b => W.heap.size + 1 ≤ b) (A := none) (n := 0) (c := 0) 0 w2 (KRow.nil _ _) rfl (by simp) (by omega) (by simp))
    clear h2 g2
    go_wp2_with fail
    refine HFO.out.mono ?_
    rintro e v9 ⟨yA, yn, yc, yq, rfl, h9, b9⟩
    have r9 := X2.out.below b9 X2.out.lt
    have HW9 := Hd (H2.out.keep b9)
    have G9 := Hd (G2.out.trans (only_of_below b9 _))
    have H9 : Hid (GcG v9 (fun b => W.heap.size + 1 ≤ b) [.slice yA yn yc, .int .u8 yq] (.mk 0 D [] ks)) := Hd (by
      rw [HKS.out]
      exact GcG.keeps _ _ _ _ _ _ h9 (fun _ _ _ => rfl) (fun b hb _ => by omega))
    clear h9 b9
    have e0 : (v9.setCell ⟨W.heap.size, 0, none⟩ (.slice yA yn yc)).cell? ⟨W.heap.size, 0, none⟩ = some (.slice yA yn yc) := by simpa using (r9.set_ 0 (.slice yA yn yc)).cell 0
    have e1 : ((v9.setCell ⟨W.heap.size, 0, none⟩ (.slice yA yn yc)).setCell ⟨W.heap.size, 1, none⟩ (.int .u8 yq)).cell? ⟨W.heap.size, 1, none⟩ = some (.int .u8 yq) := by simpa using ((r9.set_ 0 (.slice yA yn yc)).set_ 1 (.int .u8 yq)).cell 1
    have z0 := r9.frozen 0
    have z1 := r9.frozen 1
    have y0 := r9.cell 0
    have y1 := r9.cell 1
    simp at y0 y1
    clear r9
    go_wp2
    refine bodyPost_ret (by simp [results, Tryz.results185, go_sem, e0, e1]; try rfl) rfl ?_
    refine ⟨yA, yn, yc, yq, rfl, GcG.keeps _ _ _ _ _ _ H9.out (fun b hb _ => ?_) (fun b hb _ => ?_), HW9.out.under (below_two v9 W.heap.size _ _) hlr, grown_under G9.out (below_two v9 W.heap.size _ _) (Nat.le_refl _)⟩
    · rw [Below.heap_setCell _ _ _ b (by show b ≠ W.heap.size; omega), Below.heap_setCell _ _ _ b (by show b ≠ W.heap.size; omega)]
    · omega
  · have hd : ((n : Int) == 0) = false := by rw [beq_eq_false_iff_ne]; omega
    have hn1 : 0 < n := by omega
    go_enter Tryz.func185, Tryz.ntmps185
    go_wp2_with fail
    refine HU.out.mono ?_
    rintro e w2 ⟨rfl, h2, g2⟩
    obtain ⟨css, ho3, hf3⟩ := row_made (R := GeoG) (sz := 2) (e := 68) (w := w2) (ok := fun b => w2.heap.size + 1 ≤ b) (ts := ks) (n := n) (cur := madeCells #[.int .i64 0, .nilIface] (n * 2)) HN.out (size_madeCells _ _) hnm
    have X3 := Hd ((X0.out.grown g2 (by intro e; injection e with e; omega)).alloc (.cells (madeCells #[.int .i64 0, .nilIface] (n * 2)) 68))
    have G3 := Hd (only_alloc (World.grownBy.trans (only_of_below HBW.out (some p)) g2) (.cells (madeCells #[.int .i64 0, .nilIface] (n * 2)) 68))
    have s2 : W.heap.size + 1 ≤ w2.heap.size := by have := g2.size; simpa using this
    have H3 := Hd (h2.keep ((Below.refl w2.heap.size w2).alloc (Nat.le_refl _) (.cells (madeCells #[.int .i64 0, .nilIface] (n * 2)) 68)))
    have hs3 : w2.heap.size + 1 ≤ (w2.alloc (.cells (madeCells #[.int .i64 0, .nilIface] (n * 2)) 68)).heap.size := by rw [World.size_alloc]; exact Nat.le_refl _
    have HO3 := Hd ho3
    have HF3 := Hd hf3
    clear h2 g2 ho3 hf3 X0 HU HBW
    go_wp2_with fail
    generalize (w2.alloc (.cells (madeCells #[.int .i64 0, .nilIface] (n * 2)) 68)) = w3 at *
    generalize w2.heap.size = gr at *
    go_loopw [9] (fun i wr => ∃ (q : Nat) (cs : List (List Value)), q ≤ n ∧ i = .int .u32 q ∧ wr.ownsRow 0 68 2 (.slice (some ⟨gr, 0, none⟩) n n) n cs.flatten ∧ FillG GeoG 2 wr (fun b => gr + 1 ≤ b) ks q cs ∧ Wp wr B p bo no ((wkbsT (ks.drop q) (wkbsT (ks.take q) os).2).1 ++ bs) ∧ W.grownBy wr (some p) ∧ Blk wr W.heap.size 125 #[.slice none 0 0, .int .u8 0] ∧ gr + 1 ≤ wr.heap.size) (fun i _ => n - (intOf i).toNat)
    case atStart => exact ⟨0, css, Nat.zero_le _, rfl, HO3.out, HF3.out, by simpa [wkbsT] using H3.out, G3.out, X3.out, hs3⟩
    case round =>
      obtain ⟨q, cs, hq, rfl, ow, md, hw4, g4, x4, s4⟩ := hrel
      by_cases hlt : q < n
      · have htq : ks[q]? = some (ks[q]'(by rw [HN.out]; exact hlt)) := List.getElem?_eq_getElem _
        have htm : (ks[q]'(by rw [HN.out]; exact hlt)) ∈ ks := List.getElem_mem _
        generalize (ks[q]'(by rw [HN.out]; exact hlt)) = s at htq htm
        rw [wkbsT_drop ks os q htq bs] at hw4
        have hsW : W.heap.size ≤ wr.heap.size := by omega
        have HC := Hd (inner_of (HI.out s htm) wr B p _ _ _ _ hw4 (by omega))
        have hclen : q < cs.length := by rw [md.1, HN.out]; exact hlt
        have hck : cs[q]? = some (cs[q]'hclen) := List.getElem?_eq_getElem _
        generalize (cs[q]'hclen) = z at hck
        obtain ⟨za, zb, rfl⟩ := list2 (md.2.1 z (List.mem_of_getElem? hck))
        have ad' : ∀ g j : Nat, (⟨g, 0, none⟩ : Addr).add j = ⟨g, j, none⟩ := fun g j => by unfold Addr.add; split <;> simp_all
        have k0 := ow.cells (g := gr) rfl (q * 2 + 0) za (by rw [flat_at md.2.1 hck (by omega)]; rfl)
        rw [ad'] at k0
        have k1 := ow.cells (g := gr) rfl (q * 2 + 1) zb (by rw [flat_at md.2.1 hck (by omega)]; rfl)
        rw [ad'] at k1
        rw [Nat.add_zero] at k0
        have OW := Hd ow
        have MD := Hd md
        have G4 := Hd g4
        have X4 := Hd x4
        have HTQ := Hd htq
        clear ow md g4 x4 hw4 hck htq ad'
        go_wp2_with fail
        refine HC.out.mono ?_
        rintro e w5 ⟨yq, yT, ya, rfl, h5, hw5, g5⟩
        have hgl5 : gr < wr.heap.size := by omega
        have hne5 : some gr ≠ some p := by intro e; injection e with e; omega
        have o5 : w5.ownsRow 0 68 2 (.slice (some ⟨gr, 0, none⟩) n n) n cs.flatten := own_keep OW.out (fun b hb hl => g5.block b hl (by intro e; have hb' : gr = b := Option.some.inj hb; injection e with e; omega))
        have y0 := own_frozen o5 (g := gr) rfl (q * 2)
        have q0 := (World.cell?_of_block (a := ⟨gr, q * 2, none⟩) (g5.block gr hgl5 hne5)).trans k0
        have y1 := own_frozen o5 (g := gr) rfl (q * 2 + 1)
        have q1 := (World.cell?_of_block (a := ⟨gr, q * 2 + 1, none⟩) (g5.block gr hgl5 hne5)).trans k1
        have H5 := Hd (GeoG.keeps _ w5 _ (fun b => gr + 1 ≤ b) _ _ h5 (fun _ _ _ => rfl) (fun b hb _ => by omega))
        have O5 := Hd o5
        have G5 := Hd g5
        have HW5 := Hd hw5
        have s5 := g5.size
        clear o5 h5 g5 hw5 hgl5 hne5 k0 k1
        go_wp2
        go_roundw
        case rel =>
          have hheap : ∀ b, b ≠ gr → ((w5.setCell ⟨gr, q * 2, none⟩ (.int .i64 yq)).setCell ⟨gr, q * 2 + 1, none⟩ (.iface yT (.pointer (some ⟨ya, 0, none⟩)))).heap[b]? = w5.heap[b]? := fun b hb => by
            rw [Below.heap_setCell _ _ _ b hb, Below.heap_setCell _ _ _ b hb]
          have hfl : cs.flatten.length = n * 2 := OW.out.1
          have hbl : Below gr w5 ((w5.setCell ⟨gr, q * 2, none⟩ (.int .i64 yq)).setCell ⟨gr, q * 2 + 1, none⟩ (.iface yT (.pointer (some ⟨ya, 0, none⟩)))) := (below_setCell' (below_setCell' (Below.refl gr w5) (p := ⟨gr, q * 2, none⟩) (Nat.le_refl _) (.int .i64 yq)) (p := ⟨gr, q * 2 + 1, none⟩) (Nat.le_refl _) (.iface yT (.pointer (some ⟨ya, 0, none⟩))))
          refine ⟨q + 1, cs.set q [.int .i64 yq, .iface yT (.pointer (some ⟨ya, 0, none⟩))], by omega, by first | go_num | (congr 1; show IntKind.u32.wrap ((q : Int) + 1) = ((q + 1 : Nat) : Int); rw [IntKind.wrap_u32]; omega), ?_, FillG.next (FillG.keep GeoG.keeps MD.out (fun b hb hl => (hheap b (by omega)).trans (G5.out.block b hl (by intro e; injection e with e; omega))) (fun b hb _ => hb)) HTQ.out rfl (GeoG.keeps _ _ _ _ _ _ H5.out (fun b hb _ => hheap b (by omega)) (fun b hb _ => hb)), HW5.out.under hbl (by omega), grown_under (G4.out.trans G5.out) hbl (by omega), ?_, by have := hbl.size; omega⟩
          · rw [flat_set2 MD.out.2.1 hclen]
            exact own_store (own_store (O5.out) rfl (by rw [hfl]; omega) _) rfl (by simp only [List.length_set]; rw [hfl]; omega) _
          · exact (X4.out.grown G5.out (by intro e; injection e with e; omega)).below hbl (by omega)
        case measure => first | (simp [intOf]; omega) | (show n - (intOf (.int .u32 (IntKind.u32.wrap ((q : Int) + 1)))).toNat < n - (intOf (.int .u32 (q : Int))).toNat; rw [IntKind.wrap_u32, show ((q : Int) + 1) % 4294967296 = ((q + 1 : Nat) : Int) by omega]; show n - ((q + 1 : Nat) : Int).toNat < n - (q : Int).toNat; rw [Int.toNat_natCast, Int.toNat_natCast]; omega)
      · obtain rfl : n = q := by omega
        have HROW : Hid (KRow GeoG 68 2 wr (fun b => gr ≤ b) (.slice (some ⟨gr, 0, none⟩) n n) ks) := Hd (FillG.row GeoG.keeps md HN.out ow (fun b hb => ⟨by omega, by omega⟩) (Nat.le_refl _))
        have HNEW := Hd (NewGeometryCollection_G wr HROW.out HN.out HOK.out hnm hn1)
        have H4 : Hid (Wp wr B p bo no bs) := Hd (by
          have e1 : ks.drop n = [] := List.drop_eq_nil_of_le (by rw [HN.out]; exact Nat.le_refl _)
          rw [e1] at hw4
          exact hw4)
        have HSAME : Hid (Gm.mk 0 (ctF ks) [] (ks.map (forceT (ctF ks))) = .mk 0 D [] ks) := Hd (parts_same d0 d1 HWF.out (fun e => by rw [e] at HN; have := HN.out; simp at this; omega))
        have X4 := Hd x4
        have G4 := Hd g4
        clear ow md hw4 g4 x4
        go_wp2_with fail
        refine HNEW.out.mono ?_
        rintro e v9 ⟨yA, yn, yc, yq, rfl, h9, b9⟩
        rw [HSAME.out] at h9
        have r9 := X4.out.below b9 X4.out.lt
        have HW9 := Hd (H4.out.keep b9)
        have G9 := Hd (G4.out.trans (only_of_below b9 _))
        have H9 : Hid (GcG v9 (fun b => W.heap.size + 1 ≤ b) [.slice yA yn yc, .int .u8 yq] (.mk 0 D [] ks)) := Hd (GcG.keeps _ _ _ _ _ _ h9 (fun _ _ _ => rfl) (fun b hb _ => by omega))
        clear h9 b9
        have e0 : (v9.setCell ⟨W.heap.size, 0, none⟩ (.slice yA yn yc)).cell? ⟨W.heap.size, 0, none⟩ = some (.slice yA yn yc) := by simpa using (r9.set_ 0 (.slice yA yn yc)).cell 0
        have e1 : ((v9.setCell ⟨W.heap.size, 0, none⟩ (.slice yA yn yc)).setCell ⟨W.heap.size, 1, none⟩ (.int .u8 yq)).cell? ⟨W.heap.size, 1, none⟩ = some (.int .u8 yq) := by simpa using ((r9.set_ 0 (.slice yA yn yc)).set_ 1 (.int .u8 yq)).cell 1
        have z0 := r9.frozen 0
        have z1 := r9.frozen 1
        have y0 := r9.cell 0
        have y1 := r9.cell 1
        simp at y0 y1
        clear r9
        go_wp2
        refine bodyPost_ret (by simp [results, Tryz.results185, go_sem, e0, e1]; try rfl) rfl ?_
        refine ⟨yA, yn, yc, yq, rfl, GcG.keeps _ _ _ _ _ _ H9.out (fun b hb _ => ?_) (fun b hb _ => ?_), HW9.out.under (below_two v9 W.heap.size _ _) hlr, grown_under G9.out (below_two v9 W.heap.size _ _) (Nat.le_refl _)⟩
        · rw [Below.heap_setCell _ _ _ b (by show b ≠ W.heap.size; omega), Below.heap_setCell _ _ _ b (by show b ≠ W.heap.size; omega)]
        · omega

end Go.Proofs.YtofdccmmagcamaaGreatDoor
