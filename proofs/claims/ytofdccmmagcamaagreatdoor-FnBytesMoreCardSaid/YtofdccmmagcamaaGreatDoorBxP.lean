import Derived.Test.YtofdccmmagcamaaGreatDoorBxN
import Derived.Test.YtofdccmmagcamaaGreatDoorMhH
import Derived.Test.YtofdccmmagcamaaGreatDoorMhN
import Derived.Laws.CopyOwn
/- The parser of bytes: a line. -/
set_option maxHeartbeats 8000000
set_option linter.unusedSimpArgs false
set_option linter.unusedVariables false
namespace Go.Proofs.YtofdccmmagcamaaGreatDoor
open Go.RowKit

attribute [local go_sem] run_store_float

/-- What the parser's block holds, for reading. -/
theorem Wp.look {W : World} {B p : Nat} {bo : Int} {no : Bool} {a bs : List Int} {k : Nat} (h : Wp W B p bo no (a ++ bs)) (hk : a.length = k) : ∃ g o n c, Blk W p 142 #[.slice (some ⟨g, o, none⟩) n c, .int .u8 bo, .bool no] ∧ By W B g o n c (a ++ bs) ∧ k ≤ n ∧ n ≤ c ∧ B ≤ p ∧ g < B := by
  obtain ⟨hp, g, o, n, c, h1, h2⟩ := h
  refine ⟨g, o, n, c, h1, h2, ?_, h2.2.1, hp, h2.2.2.1⟩
  have := h2.1
  rw [List.length_append] at this
  omega
theorem Wp.under {w w' : World} {B p Bd : Nat} {bo : Int} {no : Bool} {bs : List Int} (h : Wp w B p bo no bs) (hb : Below Bd w w') (hp : p < Bd) : Wp w' B p bo no bs := by
  have hpB := h.hp
  obtain ⟨g, o, n, c, h1, h2⟩ := h.blk
  exact ⟨h.hp, g, o, n, c, h1.below hb hp, h2.below (hb.mono (by omega))⟩
theorem grown_under {W w w' : World} {row : Option Nat} {Bd : Nat} (h : W.grownBy w row) (hb : Below Bd w w') (hW : W.heap.size ≤ Bd) : W.grownBy w' row :=
  ⟨hb.os.trans h.os, hb.tape.trans h.tape, hb.output.trans h.output, Nat.le_trans h.size hb.size, fun k hk hne => (hb.block k (by omega)).trans (h.block k hk hne)⟩
theorem below_two (w : World) (b : Nat) (u v : Value) : Below b w ((w.setCell ⟨b, 0, none⟩ u).setCell ⟨b, 1, none⟩ v) := below_setCell' (below_setCell' (Below.refl b w) (p := ⟨b, 0, none⟩) (Nat.le_refl b) u) (p := ⟨b, 1, none⟩) (Nat.le_refl b) v
theorem By.keep' {W W' : World} {B g o n c r : Nat} {bs : List Int} (h : By W B g o n c bs) (hg : W.grownBy W' (some r)) (hr : B ≤ r) (hB : B ≤ W.heap.size) : By W' B g o n c bs := h.below (grown_below hg hr hB)
theorem grown_far {W w w' : World} {row : Option Nat} {r : Nat} (h : W.grownBy w row) (hg : w.grownBy w' (some r)) (hr : W.heap.size ≤ r) : W.grownBy w' row :=
  ⟨hg.os.trans h.os, hg.tape.trans h.tape, hg.output.trans h.output, Nat.le_trans h.size hg.size, fun k hk hne => (hg.block k (Nat.lt_of_lt_of_le hk h.size) (by intro e; injection e with e; omega)).trans (h.block k hk hne)⟩
theorem By.of_blk {W : World} {B g n c : Nat} {bs : List Int} (h : Blk W g 5 (bytesV bs).toArray) (hn : bs.length = n) (hc : n ≤ c) (hg : g < B) : By W B g 0 n c bs :=
  ⟨hn, hc, hg, fun j b hj => by
    rw [Nat.zero_add, h.cell, List.getElem?_toArray]
    unfold bytesV
    rw [List.getElem?_map, hj]
    rfl⟩
theorem By.setP {W : World} {B g o n c p j : Nat} {bs : List Int} (h : By W B g o n c bs) (hp : B ≤ p) (u : Value) : By (W.setCell ⟨p, j, none⟩ u) B g o n c bs := h.below (below_setCell' (Below.refl _ _) hp u)
theorem blk_zeros {w : World} {t : TypeId} {u : Value} {n : Nat} : (w.alloc (.cells (madeCells #[u] n) t)).heap[w.heap.size]? = some (.cells (List.replicate n u).toArray t (0, 0)) := by
  have h := Blk.new w t (madeCells #[u] n)
  refine Eq.trans h ?_
  congr 2
  exact madeCells_one _ _

set_option maxRecDepth 100000 in
theorem parseLine_own {W : World} {B p : Nat} {q : Int} {ns : List Nat} {bs : List Int} {n : Nat} (hB : B ≤ W.heap.size) (q0 : 0 ≤ q) (q1 : q ≤ 3) (hn : ns.length = n) (hm : n % wd q = 0) (hb : ∀ b ∈ ns, b < 18446744073709551616) (hs : n ≤ 1000000) (h : Wp W B p 1 true (uB false 4 (n / wd q) ++ (numsB false ns ++ bs))) :
    Calls Tryz.prog 180 #[.pointer (some ⟨p, 0, none⟩), .int .u8 q] W fun e w' => ∃ (A : Option Addr) (m c : Nat), e = .returned (.tuple #[.agg #[.int .u8 q, .slice A m c], .nilIface]) ∧ LsG w' (fun b => W.heap.size ≤ b) [.int .u8 q, .slice A m c] (.mk 2 q ns []) ∧ Wp w' B p 1 true bs ∧ W.grownBy w' (some p) := by
  obtain ⟨i0, hi0, hz0, hz1, hz2⟩ := info_parts info_f64
  obtain ⟨j0, hj0, hy0, hy1, hy2⟩ := info_parts info_u8
  have hwd := dimension_any q q0 q1
  have hwp : 2 ≤ wd q ∧ wd q ≤ 4 := by rcases wd_cases q q0 q1 with ⟨_, h⟩ | ⟨_, h⟩ | ⟨_, h⟩ | ⟨_, h⟩ <;> rw [h] <;> omega
  have hns := NewSequence_any q q0 q1
  have hMD : (n / wd q) * wd q = n := by
    have := Nat.div_add_mod n (wd q)
    rw [hm, Nat.add_zero, Nat.mul_comm] at this
    exact this
  have hMn : n / wd q ≤ n := Nat.div_le_self _ _
  have HNS := Hd (fun (A : Option Addr) (c : Nat) w => hns A n c hm w)
  have hlr := h.lt
  have hbw : Below W.heap.size W (W.alloc (.cells #[.int .u8 0, .slice none 0 0] 89)) := (Below.refl _ _).alloc (Nat.le_refl _) _
  have HU := Hd (parseUint32_any false (n / wd q) (by omega) (h.keep hbw))
  have HMD : Hid (∀ q', q' = q → n % wd q' = 0) := Hd (fun q' e => by rw [e]; exact hm)
  clear hm
  generalize n / wd q = M at *
  generalize wd q = D at *
  have hMD2 : (M : Int) * (D : Int) = (n : Int) := by rw [← hMD]; push_cast; rfl
  have hcw : IntKind.i64.wrap (M : Int) = (M : Int) := by rw [IntKind.wrap_i64]; omega
  have hmk : ∀ w : World, (Instr.makeSlice 22 (.int .i64 (n : Int)) (.int .i64 (n : Int))).run Tryz.prog w = .ok (.slice (some ⟨w.heap.size, 0, none⟩) n n) (w.alloc (.cells (madeCells #[.float .f64 0] n) 73)) := fun w => by
    have h := run_make_rowN (P := Tryz.prog) 22 73 i0 (.float .f64 0) Tryz.underlying22 hi0 hz0 .i64 .i64 n n (Nat.le_refl _) (by rw [hz2]; omega) (by omega) w
    rw [hz1, Nat.mul_one] at h
    exact h
  have X0 := Hd (Blk.new W 89 #[.int .u8 0, .slice none 0 0])
  have HWD := Hd hwd
  have HN := Hd hn
  have HBB := Hd hb
  have HBW := Hd hbw
  clear hwd hn hb h hns hbw hMD
  go_enter Tryz.func180, Tryz.ntmps180
  go_wp2_with fail
  refine HU.out.mono ?_
  rintro e w2 ⟨rfl, h2, g2⟩
  have X2 := Hd (X0.out.grown g2 (by intro e; injection e with e; omega))
  have hs2 : W.heap.size + 1 ≤ w2.heap.size := by have := g2.size; simpa using this
  have G2 := Hd (World.grownBy.trans (only_of_below HBW.out (some p)) g2)
  have h3 := h2.keep ((Below.refl w2.heap.size w2).alloc (Nat.le_refl _) (.cells (madeCells #[.float .f64 0] n) 73))
  have hF : (w2.alloc (.cells (madeCells #[.float .f64 0] n) 73)).heap[w2.heap.size]? = some (.cells (List.replicate n (.float .f64 0)).toArray 73 (0, 0)) := blk_zeros
  have X3 := Hd (X2.out.alloc (.cells (madeCells #[.float .f64 0] n) 73))
  have G3 := Hd (only_alloc G2.out (.cells (madeCells #[.float .f64 0] n) 73))
  have hs3 : (w2.alloc (.cells (madeCells #[.float .f64 0] n) 73)).heap.size = w2.heap.size + 1 := World.size_alloc _ _
  have hp3 := h3.lt
  obtain ⟨g, o, N, c, hx, hy, hNn, hNc, hpB, hgB⟩ := h3.look (k := 8 * n) (by rw [numsB_length, HN.out])
  have d0 := hx.cell 0
  have d2 := hx.cell 2
  have z0 := hx.frozen 0
  simp at d0 d2
  have HX := Hd hx
  have HY := Hd hy
  have HF := Hd hF
  have hlt : decide ((N : Int) < 8 * (n : Int)) = false := decide_eq_false (by omega)
  clear h2 h3 g2 hx hy hF X0
  go_wp2_with fail
  refine (HWD.out _).mono ?_
  rintro e w9 ⟨rfl, rfl⟩
  by_cases hc8 : c = 8 * n
  · subst hc8
    have hN0 : N - 8 * n = 0 := by omega
    go_wp2_with fail
    have hw4 : Wp ((w9.alloc (.cells (madeCells #[.float .f64 0] n) 73)).setCell ⟨p, 0, none⟩ (.slice (some ⟨g, o, none⟩) 0 0)) B p 1 true bs := by
      have h := Wp.cut_eq (a := numsB false ns) hpB HX.out HY.out (by rw [numsB_length, HN.out])
      rwa [hN0] at h
    have x4 : Blk ((w9.alloc (.cells (madeCells #[.float .f64 0] n) 73)).setCell ⟨p, 0, none⟩ (.slice (some ⟨g, o, none⟩) 0 0)) W.heap.size 89 #[.int .u8 0, .slice none 0 0] := X3.out.far (by show W.heap.size ≠ p; omega) _
    have f4 : Blk ((w9.alloc (.cells (madeCells #[.float .f64 0] n) 73)).setCell ⟨p, 0, none⟩ (.slice (some ⟨g, o, none⟩) 0 0)) w9.heap.size 73 (List.replicate n (.float .f64 0)).toArray := Blk.far HF.out (by show w9.heap.size ≠ p; omega) _
    have y4 : By ((w9.alloc (.cells (madeCells #[.float .f64 0] n) 73)).setCell ⟨p, 0, none⟩ (.slice (some ⟨g, o, none⟩) 0 0)) B g o (8 * n) (8 * n) (numsB false ns) := (HY.out.take (by rw [numsB_length, HN.out])).setP hpB _
    have g4 : W.grownBy ((w9.alloc (.cells (madeCells #[.float .f64 0] n) 73)).setCell ⟨p, 0, none⟩ (.slice (some ⟨g, o, none⟩) 0 0)) (some p) := G3.out.trans (grown_set _)
    have s4 : w9.heap.size + 1 ≤ ((w9.alloc (.cells (madeCells #[.float .f64 0] n) 73)).setCell ⟨p, 0, none⟩ (.slice (some ⟨g, o, none⟩) 0 0)).heap.size := by simp only [World.setCell, Array.size_modify]; rw [hs3]; omega
    have s5 : B ≤ ((w9.alloc (.cells (madeCells #[.float .f64 0] n) 73)).setCell ⟨p, 0, none⟩ (.slice (some ⟨g, o, none⟩) 0 0)).heap.size := by simp only [World.setCell, Array.size_modify]; rw [hs3]; omega
    generalize ((w9.alloc (.cells (madeCells #[.float .f64 0] n) 73)).setCell ⟨p, 0, none⟩ (.slice (some ⟨g, o, none⟩) 0 0)) = w4 at *
    have HW4 := Hd hw4
    have X4 := Hd x4
    have F4 := Hd f4
    have G4 := Hd g4
    have HFL := Hd (floats_any (c := (8 * n)) (r := []) HN.out (rfl : 8 * n = 8 * n) (by omega) HBB.out s5 y4)
    clear hw4 x4 f4 g4 y4 d0 d2 z0
    refine HFL.out.mono ?_
    rintro e w5 ⟨A5, c5, rfl, h5, b5⟩
    obtain ⟨w6, hcp, hg6, hb6⟩ := run_copy_made (P := Tryz.prog) (sT := 22) (ty := 3) (c := c5) (A := A5) (e := 73) (t := 73) (cs := flV ns) (n := n) Tryz.underlying22 (by kernel_rfl) (F4.out.below b5 F4.out.lt) (by rw [flV_length]; exact HN.out) (Nat.le_refl _) (fun h0 => by
      obtain ⟨g1, e, hb⟩ := h5 h0
      refine ⟨_, e, fun j v hv => ?_⟩
      have ha : (⟨g1, 0, none⟩ : Addr).add j = ⟨g1, j, none⟩ := by unfold Addr.add; split <;> simp_all
      rw [ha, hb.cell, List.getElem?_toArray]
      exact hv) (flV_one _)
    have b46 : Below w9.heap.size w4 w6 := (b5.mono (by omega)).trans (hb6 _ (Nat.le_refl _))
    have HW6 := Hd (HW4.out.under b46 (by omega))
    have X6 := Hd (X4.out.below b46 (by omega))
    have F6 : Hid (Blk w6 w9.heap.size 73 (flV ns).toArray) := Hd hg6
    have G6 := Hd (grown_under G4.out b46 (by omega))
    have s6 : w9.heap.size + 1 ≤ w6.heap.size := Nat.succ_le_of_lt F6.out.lt
    clear h5 b5 hg6 hb6 b46 HW4 X4 F4 G4 HFL
    go_wp2_with fail
    refine (HNS.out _ _ _).mono ?_
    rintro e w7 ⟨rfl, b7⟩
    have b78 := b7.alloc b7.size (.cells #[.int .u8 q, .slice (some ⟨w9.heap.size, 0, none⟩) n n] 87)
    clear hcp
    go_wp2_with fail
    refine (NewLineString_any q _ n n _).mono ?_
    rintro e w8 ⟨rfl, b8⟩
    have b68 : Below w6.heap.size w6 w8 := b78.trans (b8.mono (by rw [World.size_alloc]; have := b7.size; omega))
    have x8 := X6.out.below b68 X6.out.lt
    have HW8 := Hd (HW6.out.keep b68)
    have F8 := Hd (F6.out.below b68 F6.out.lt)
    have G8 := Hd (G6.out.trans (only_of_below b68 _))
    have c0 := x8.cell 0
    have c1 := x8.cell 1
    have z0 := x8.frozen 0
    have z1 := x8.frozen 1
    simp at c0 c1
    have e0 : (w8.setCell ⟨W.heap.size, 0, none⟩ (.int .u8 q)).cell? ⟨W.heap.size, 0, none⟩ = some (.int .u8 q) := by simpa using (x8.set_ 0 (.int .u8 q)).cell 0
    have e1 : ((w8.setCell ⟨W.heap.size, 0, none⟩ (.int .u8 q)).setCell ⟨W.heap.size, 1, none⟩ (.slice (some ⟨w9.heap.size, 0, none⟩) n n)).cell? ⟨W.heap.size, 1, none⟩ = some (.slice (some ⟨w9.heap.size, 0, none⟩) n n) := by simpa using ((x8.set_ 0 (.int .u8 q)).set_ 1 (.slice (some ⟨w9.heap.size, 0, none⟩) n n)).cell 1
    clear b7 b8 b78 b68 x8
    go_wp2
    refine bodyPost_ret (by simp [results, Tryz.results180, go_sem, e0, e1]; try rfl) rfl ?_
    refine ⟨some ⟨w9.heap.size, 0, none⟩, n, n, rfl, ⟨q, ns, rfl, some ⟨w9.heap.size, 0, none⟩, n, n, rfl, q0, q1, HN.out, HMD.out q rfl, HBB.out, fun _ => ⟨w9.heap.size, rfl, by omega, (F8.out.far (by show w9.heap.size ≠ W.heap.size; omega) _).far (by show w9.heap.size ≠ W.heap.size; omega) _⟩⟩, ?_, ?_⟩
    · exact HW8.out.under (below_two w8 W.heap.size _ _) hlr
    · exact grown_under G8.out (below_two w8 W.heap.size _ _) (Nat.le_refl _)
  · have hc9 : ¬ 8 * n = c := fun e => hc8 e.symm
    go_wp2_with fail
    have hw4 : Wp ((w9.alloc (.cells (madeCells #[.float .f64 0] n) 73)).setCell ⟨p, 0, none⟩ (.slice (some ⟨g, o + 8 * n, none⟩) (N - 8 * n) (c - 8 * n))) B p 1 true bs := Wp.cut_lt (a := numsB false ns) hpB HX.out HY.out (by rw [numsB_length, HN.out]) hc8
    have x4 : Blk ((w9.alloc (.cells (madeCells #[.float .f64 0] n) 73)).setCell ⟨p, 0, none⟩ (.slice (some ⟨g, o + 8 * n, none⟩) (N - 8 * n) (c - 8 * n))) W.heap.size 89 #[.int .u8 0, .slice none 0 0] := X3.out.far (by show W.heap.size ≠ p; omega) _
    have f4 : Blk ((w9.alloc (.cells (madeCells #[.float .f64 0] n) 73)).setCell ⟨p, 0, none⟩ (.slice (some ⟨g, o + 8 * n, none⟩) (N - 8 * n) (c - 8 * n))) w9.heap.size 73 (List.replicate n (.float .f64 0)).toArray := Blk.far HF.out (by show w9.heap.size ≠ p; omega) _
    have y4 : By ((w9.alloc (.cells (madeCells #[.float .f64 0] n) 73)).setCell ⟨p, 0, none⟩ (.slice (some ⟨g, o + 8 * n, none⟩) (N - 8 * n) (c - 8 * n))) B g o (8 * n) c (numsB false ns) := (HY.out.take (by rw [numsB_length, HN.out])).setP hpB _
    have g4 : W.grownBy ((w9.alloc (.cells (madeCells #[.float .f64 0] n) 73)).setCell ⟨p, 0, none⟩ (.slice (some ⟨g, o + 8 * n, none⟩) (N - 8 * n) (c - 8 * n))) (some p) := G3.out.trans (grown_set _)
    have s4 : w9.heap.size + 1 ≤ ((w9.alloc (.cells (madeCells #[.float .f64 0] n) 73)).setCell ⟨p, 0, none⟩ (.slice (some ⟨g, o + 8 * n, none⟩) (N - 8 * n) (c - 8 * n))).heap.size := by simp only [World.setCell, Array.size_modify]; rw [hs3]; omega
    have s5 : B ≤ ((w9.alloc (.cells (madeCells #[.float .f64 0] n) 73)).setCell ⟨p, 0, none⟩ (.slice (some ⟨g, o + 8 * n, none⟩) (N - 8 * n) (c - 8 * n))).heap.size := by simp only [World.setCell, Array.size_modify]; rw [hs3]; omega
    generalize ((w9.alloc (.cells (madeCells #[.float .f64 0] n) 73)).setCell ⟨p, 0, none⟩ (.slice (some ⟨g, o + 8 * n, none⟩) (N - 8 * n) (c - 8 * n))) = w4 at *
    have HW4 := Hd hw4
    have X4 := Hd x4
    have F4 := Hd f4
    have G4 := Hd g4
    have HFL := Hd (floats_any (c := c) (r := []) HN.out (rfl : 8 * n = 8 * n) (by omega) HBB.out s5 y4)
    clear hw4 x4 f4 g4 y4 d0 d2 z0
    refine HFL.out.mono ?_
    rintro e w5 ⟨A5, c5, rfl, h5, b5⟩
    obtain ⟨w6, hcp, hg6, hb6⟩ := run_copy_made (P := Tryz.prog) (sT := 22) (ty := 3) (c := c5) (A := A5) (e := 73) (t := 73) (cs := flV ns) (n := n) Tryz.underlying22 (by kernel_rfl) (F4.out.below b5 F4.out.lt) (by rw [flV_length]; exact HN.out) (Nat.le_refl _) (fun h0 => by
      obtain ⟨g1, e, hb⟩ := h5 h0
      refine ⟨_, e, fun j v hv => ?_⟩
      have ha : (⟨g1, 0, none⟩ : Addr).add j = ⟨g1, j, none⟩ := by unfold Addr.add; split <;> simp_all
      rw [ha, hb.cell, List.getElem?_toArray]
      exact hv) (flV_one _)
    have b46 : Below w9.heap.size w4 w6 := (b5.mono (by omega)).trans (hb6 _ (Nat.le_refl _))
    have HW6 := Hd (HW4.out.under b46 (by omega))
    have X6 := Hd (X4.out.below b46 (by omega))
    have F6 : Hid (Blk w6 w9.heap.size 73 (flV ns).toArray) := Hd hg6
    have G6 := Hd (grown_under G4.out b46 (by omega))
    have s6 : w9.heap.size + 1 ≤ w6.heap.size := Nat.succ_le_of_lt F6.out.lt
    clear h5 b5 hg6 hb6 b46 HW4 X4 F4 G4 HFL
    go_wp2_with fail
    refine (HNS.out _ _ _).mono ?_
    rintro e w7 ⟨rfl, b7⟩
    have b78 := b7.alloc b7.size (.cells #[.int .u8 q, .slice (some ⟨w9.heap.size, 0, none⟩) n n] 87)
    clear hcp
    go_wp2_with fail
    refine (NewLineString_any q _ n n _).mono ?_
    rintro e w8 ⟨rfl, b8⟩
    have b68 : Below w6.heap.size w6 w8 := b78.trans (b8.mono (by rw [World.size_alloc]; have := b7.size; omega))
    have x8 := X6.out.below b68 X6.out.lt
    have HW8 := Hd (HW6.out.keep b68)
    have F8 := Hd (F6.out.below b68 F6.out.lt)
    have G8 := Hd (G6.out.trans (only_of_below b68 _))
    have c0 := x8.cell 0
    have c1 := x8.cell 1
    have z0 := x8.frozen 0
    have z1 := x8.frozen 1
    simp at c0 c1
    have e0 : (w8.setCell ⟨W.heap.size, 0, none⟩ (.int .u8 q)).cell? ⟨W.heap.size, 0, none⟩ = some (.int .u8 q) := by simpa using (x8.set_ 0 (.int .u8 q)).cell 0
    have e1 : ((w8.setCell ⟨W.heap.size, 0, none⟩ (.int .u8 q)).setCell ⟨W.heap.size, 1, none⟩ (.slice (some ⟨w9.heap.size, 0, none⟩) n n)).cell? ⟨W.heap.size, 1, none⟩ = some (.slice (some ⟨w9.heap.size, 0, none⟩) n n) := by simpa using ((x8.set_ 0 (.int .u8 q)).set_ 1 (.slice (some ⟨w9.heap.size, 0, none⟩) n n)).cell 1
    clear b7 b8 b78 b68 x8
    go_wp2
    refine bodyPost_ret (by simp [results, Tryz.results180, go_sem, e0, e1]; try rfl) rfl ?_
    refine ⟨some ⟨w9.heap.size, 0, none⟩, n, n, rfl, ⟨q, ns, rfl, some ⟨w9.heap.size, 0, none⟩, n, n, rfl, q0, q1, HN.out, HMD.out q rfl, HBB.out, fun _ => ⟨w9.heap.size, rfl, by omega, (F8.out.far (by show w9.heap.size ≠ W.heap.size; omega) _).far (by show w9.heap.size ≠ W.heap.size; omega) _⟩⟩, ?_, ?_⟩
    · exact HW8.out.under (below_two w8 W.heap.size _ _) hlr
    · exact grown_under G8.out (below_two w8 W.heap.size _ _) (Nat.le_refl _)

set_option maxRecDepth 100000 in
theorem parseLine_far {W : World} {B p : Nat} {q : Int} {ns : List Nat} {bs : List Int} {n : Nat} (hB : B ≤ W.heap.size) (q0 : 0 ≤ q) (q1 : q ≤ 3) (hn : ns.length = n) (hm : n % wd q = 0) (hb : ∀ b ∈ ns, b < 18446744073709551616) (hs : n ≤ 1000000) (h : Wp W B p 0 false (uB true 4 (n / wd q) ++ (numsB true ns ++ bs))) :
    Calls Tryz.prog 180 #[.pointer (some ⟨p, 0, none⟩), .int .u8 q] W fun e w' => ∃ (A : Option Addr) (m c : Nat), e = .returned (.tuple #[.agg #[.int .u8 q, .slice A m c], .nilIface]) ∧ LsG w' (fun b => W.heap.size ≤ b) [.int .u8 q, .slice A m c] (.mk 2 q ns []) ∧ Wp w' B p 0 false bs ∧ W.grownBy w' (some p) := by
  obtain ⟨i0, hi0, hz0, hz1, hz2⟩ := info_parts info_f64
  obtain ⟨j0, hj0, hy0, hy1, hy2⟩ := info_parts info_u8
  have hwd := dimension_any q q0 q1
  have hwp : 2 ≤ wd q ∧ wd q ≤ 4 := by rcases wd_cases q q0 q1 with ⟨_, h⟩ | ⟨_, h⟩ | ⟨_, h⟩ | ⟨_, h⟩ <;> rw [h] <;> omega
  have hns := NewSequence_any q q0 q1
  have hMD : (n / wd q) * wd q = n := by
    have := Nat.div_add_mod n (wd q)
    rw [hm, Nat.add_zero, Nat.mul_comm] at this
    exact this
  have hMn : n / wd q ≤ n := Nat.div_le_self _ _
  have HNS := Hd (fun (A : Option Addr) (c : Nat) w => hns A n c hm w)
  have hlr := h.lt
  have hbw : Below W.heap.size W (W.alloc (.cells #[.int .u8 0, .slice none 0 0] 89)) := (Below.refl _ _).alloc (Nat.le_refl _) _
  have HU := Hd (parseUint32_any true (n / wd q) (by omega) (h.keep hbw))
  have HMD : Hid (∀ q', q' = q → n % wd q' = 0) := Hd (fun q' e => by rw [e]; exact hm)
  clear hm
  generalize n / wd q = M at *
  generalize wd q = D at *
  have hMD2 : (M : Int) * (D : Int) = (n : Int) := by rw [← hMD]; push_cast; rfl
  have hcw : IntKind.i64.wrap (M : Int) = (M : Int) := by rw [IntKind.wrap_i64]; omega
  have hmk : ∀ w : World, (Instr.makeSlice 22 (.int .i64 (n : Int)) (.int .i64 (n : Int))).run Tryz.prog w = .ok (.slice (some ⟨w.heap.size, 0, none⟩) n n) (w.alloc (.cells (madeCells #[.float .f64 0] n) 73)) := fun w => by
    have h := run_make_rowN (P := Tryz.prog) 22 73 i0 (.float .f64 0) Tryz.underlying22 hi0 hz0 .i64 .i64 n n (Nat.le_refl _) (by rw [hz2]; omega) (by omega) w
    rw [hz1, Nat.mul_one] at h
    exact h
  have X0 := Hd (Blk.new W 89 #[.int .u8 0, .slice none 0 0])
  have HWD := Hd hwd
  have HN := Hd hn
  have HBB := Hd hb
  have HBW := Hd hbw
  clear hwd hn hb h hns hbw hMD
  go_enter Tryz.func180, Tryz.ntmps180
  go_wp2_with fail
  refine HU.out.mono ?_
  rintro e w2 ⟨rfl, h2, g2⟩
  have X2 := Hd (X0.out.grown g2 (by intro e; injection e with e; omega))
  have hs2 : W.heap.size + 1 ≤ w2.heap.size := by have := g2.size; simpa using this
  have G2 := Hd (World.grownBy.trans (only_of_below HBW.out (some p)) g2)
  have h3 := h2.keep ((Below.refl w2.heap.size w2).alloc (Nat.le_refl _) (.cells (madeCells #[.float .f64 0] n) 73))
  have hF : (w2.alloc (.cells (madeCells #[.float .f64 0] n) 73)).heap[w2.heap.size]? = some (.cells (List.replicate n (.float .f64 0)).toArray 73 (0, 0)) := blk_zeros
  have X3 := Hd (X2.out.alloc (.cells (madeCells #[.float .f64 0] n) 73))
  have G3 := Hd (only_alloc G2.out (.cells (madeCells #[.float .f64 0] n) 73))
  have hs3 : (w2.alloc (.cells (madeCells #[.float .f64 0] n) 73)).heap.size = w2.heap.size + 1 := World.size_alloc _ _
  have hp3 := h3.lt
  obtain ⟨g, o, N, c, hx, hy, hNn, hNc, hpB, hgB⟩ := h3.look (k := 8 * n) (by rw [numsB_length, HN.out])
  have d0 := hx.cell 0
  have d2 := hx.cell 2
  have z0 := hx.frozen 0
  simp at d0 d2
  have HX := Hd hx
  have HY := Hd hy
  have HF := Hd hF
  have hlt : decide ((N : Int) < 8 * (n : Int)) = false := decide_eq_false (by omega)
  clear h2 h3 g2 hx hy hF X0
  go_wp2_with fail
  refine (HWD.out _).mono ?_
  rintro e w9 ⟨rfl, rfl⟩
  have hmb : ∀ w : World, (Instr.makeSlice 28 (.int .i64 (8 * (n : Int))) (.int .i64 (8 * (n : Int)))).run Tryz.prog w = .ok (.slice (some ⟨w.heap.size, 0, none⟩) (8 * n) (8 * n)) (w.alloc (.cells (madeCells #[.int .u8 0] (8 * n)) 5)) := fun w => by
    have h := run_make_rowN (P := Tryz.prog) 28 5 j0 (.int .u8 0) Tryz.underlying28 hj0 hy0 .i64 .i64 (8 * n) (8 * n) (Nat.le_refl _) (by rw [hy2]; omega) (by omega) w
    rw [hy1, Nat.mul_one] at h
    exact_mod_cast h
  have hFB : ((w9.alloc (.cells (madeCells #[.float .f64 0] n) 73)).alloc (.cells (madeCells #[.int .u8 0] (8 * n)) 5)).heap[w9.heap.size + 1]? = some (.cells (List.replicate (8 * n) (.int .u8 0)).toArray 5 (0, 0)) := by
    have h := blk_zeros (w := w9.alloc (.cells (madeCells #[.float .f64 0] n) 73)) (t := 5) (u := .int .u8 0) (n := 8 * n)
    rwa [World.size_alloc] at h
  have yB := (HY.out.below ((Below.refl B _).alloc (by rw [hs3]; omega) (.cells (madeCells #[.int .u8 0] (8 * n)) 5)))
  have hnl : (numsB true ns).length = 8 * n := by rw [numsB_length, HN.out]
  obtain ⟨v6, hcp1, hg1, hb1⟩ := run_copy_made (P := Tryz.prog) (sT := 28) (ty := 3) (c := c) (n := N) (A := some ⟨g, o, none⟩) (e := 5) (t := 5) (cs := bytesV (numsB true ns)) Tryz.underlying28 (by kernel_rfl) hFB (by rw [bytesV_length]; exact hnl) hNn (fun h0 => ⟨_, rfl, fun j v hv => by
      unfold bytesV at hv
      rw [List.getElem?_map] at hv
      obtain ⟨x, hx, rfl⟩ := Option.map_eq_some_iff.1 hv
      have h := yB.2.2.2 j x (by rw [List.getElem?_append_left (List.getElem?_eq_some_iff.1 hx).1]; exact hx)
      unfold Addr.add
      split
      · rename_i e
        rw [e, Nat.add_zero] at h
        exact h
      · exact h⟩) (bytesV_one _)
  have b1v : Below (w9.heap.size + 1) ((w9.alloc (.cells (madeCells #[.float .f64 0] n) 73)).alloc (.cells (madeCells #[.int .u8 0] (8 * n)) 5)) v6 := hb1 _ (Nat.le_refl _)
  have dB0 : ((w9.alloc (.cells (madeCells #[.float .f64 0] n) 73)).alloc (.cells (madeCells #[.int .u8 0] (8 * n)) 5)).cell? ⟨p, 0, none⟩ = some (.slice (some ⟨g, o, none⟩) N c) := ((HX.out.alloc _).cell 0).trans rfl
  have X6' := Hd ((X3.out.alloc (.cells (madeCells #[.int .u8 0] (8 * n)) 5)).below b1v (by omega))
  have F6' := Hd ((Blk.alloc (show Blk _ w9.heap.size 73 _ from HF.out) (.cells (madeCells #[.int .u8 0] (8 * n)) 5)).below b1v (by omega))
  have hx6 := (HX.out.alloc (.cells (madeCells #[.int .u8 0] (8 * n)) 5)).below b1v (by omega)
  have G6' := Hd (grown_under (only_alloc G3.out (.cells (madeCells #[.int .u8 0] (8 * n)) 5)) b1v (by omega))
  have y6 := yB.below (b1v.mono (by omega))
  have hv6 : w9.heap.size + 2 ≤ v6.heap.size := by have := b1v.size; simpa using this
  have HFB := Hd (flip_any (c := 8 * n) HN.out rfl (Nat.le_refl _) (by omega) HBB.out (show Blk v6 (w9.heap.size + 1) 5 _ from hg1))
  have HX6 := Hd hx6
  have HY6 := Hd y6
  clear hFB hg1 hb1 b1v hx6 y6 yB X3 HX HY HF G3 hs3
  go_wp2_with fail
  refine HFB.out.mono ?_
  rintro e v7 ⟨rfl, f7, g7⟩
  have X3 := Hd (X6'.out.grown g7 (by intro e; injection e with e; omega))
  have HX := Hd (HX6.out.grown g7 (by intro e; injection e with e; omega))
  have HF : Hid (Blk v7 w9.heap.size 73 _) := Hd (F6'.out.grown g7 (by intro e; injection e with e; omega))
  have HY := Hd (HY6.out.keep' g7 (by omega) (by omega))
  have G3 := Hd (grown_far G6'.out g7 (by omega))
  have hs3 : w9.heap.size + 2 ≤ v7.heap.size := Nat.le_trans hv6 g7.size
  have F7 := Hd f7
  have d0 := HX.out.cell 0
  have z0 := HX.out.frozen 0
  simp at d0
  clear hcp1 X6' F6' G6' HX6 HY6 HFB f7 g7 dB0
  by_cases hc8 : c = 8 * n
  · subst hc8
    have hN0 : N - 8 * n = 0 := by omega
    go_wp2_with fail
    have hw4 : Wp ((v7).setCell ⟨p, 0, none⟩ (.slice (some ⟨g, o, none⟩) 0 0)) B p 0 false bs := by
      have h := Wp.cut_eq (a := numsB true ns) hpB HX.out HY.out (by rw [numsB_length, HN.out])
      rwa [hN0] at h
    have x4 : Blk ((v7).setCell ⟨p, 0, none⟩ (.slice (some ⟨g, o, none⟩) 0 0)) W.heap.size 89 #[.int .u8 0, .slice none 0 0] := X3.out.far (by show W.heap.size ≠ p; omega) _
    have f4 : Blk ((v7).setCell ⟨p, 0, none⟩ (.slice (some ⟨g, o, none⟩) 0 0)) w9.heap.size 73 (List.replicate n (.float .f64 0)).toArray := Blk.far HF.out (by show w9.heap.size ≠ p; omega) _
    have y4 : By ((v7).setCell ⟨p, 0, none⟩ (.slice (some ⟨g, o, none⟩) 0 0)) (w9.heap.size + 2) (w9.heap.size + 1) 0 (8 * n) (8 * n) (numsB false ns) := By.of_blk (Blk.far F7.out (by show w9.heap.size + 1 ≠ p; omega) _) (by rw [numsB_length, HN.out]) (Nat.le_refl _) (by omega)
    have g4 : W.grownBy ((v7).setCell ⟨p, 0, none⟩ (.slice (some ⟨g, o, none⟩) 0 0)) (some p) := G3.out.trans (grown_set _)
    have s4 : w9.heap.size + 1 ≤ ((v7).setCell ⟨p, 0, none⟩ (.slice (some ⟨g, o, none⟩) 0 0)).heap.size := by simp only [World.setCell, Array.size_modify]; omega
    have s5 : (w9.heap.size + 2) ≤ ((v7).setCell ⟨p, 0, none⟩ (.slice (some ⟨g, o, none⟩) 0 0)).heap.size := by simp only [World.setCell, Array.size_modify]; omega
    generalize ((v7).setCell ⟨p, 0, none⟩ (.slice (some ⟨g, o, none⟩) 0 0)) = w4 at *
    have HW4 := Hd hw4
    have X4 := Hd x4
    have F4 := Hd f4
    have G4 := Hd g4
    have HFL := Hd (floats_any (c := (8 * n)) (r := []) HN.out (rfl : 8 * n = 8 * n) (by omega) HBB.out s5 y4)
    clear hw4 x4 f4 g4 y4 d0 d2 z0
    refine HFL.out.mono ?_
    rintro e w5 ⟨A5, c5, rfl, h5, b5⟩
    obtain ⟨w6, hcp, hg6, hb6⟩ := run_copy_made (P := Tryz.prog) (sT := 22) (ty := 3) (c := c5) (A := A5) (e := 73) (t := 73) (cs := flV ns) (n := n) Tryz.underlying22 (by kernel_rfl) (F4.out.below b5 F4.out.lt) (by rw [flV_length]; exact HN.out) (Nat.le_refl _) (fun h0 => by
      obtain ⟨g1, e, hb⟩ := h5 h0
      refine ⟨_, e, fun j v hv => ?_⟩
      have ha : (⟨g1, 0, none⟩ : Addr).add j = ⟨g1, j, none⟩ := by unfold Addr.add; split <;> simp_all
      rw [ha, hb.cell, List.getElem?_toArray]
      exact hv) (flV_one _)
    have b46 : Below w9.heap.size w4 w6 := (b5.mono (by omega)).trans (hb6 _ (Nat.le_refl _))
    have HW6 := Hd (HW4.out.under b46 (by omega))
    have X6 := Hd (X4.out.below b46 (by omega))
    have F6 : Hid (Blk w6 w9.heap.size 73 (flV ns).toArray) := Hd hg6
    have G6 := Hd (grown_under G4.out b46 (by omega))
    have s6 : w9.heap.size + 1 ≤ w6.heap.size := Nat.succ_le_of_lt F6.out.lt
    clear h5 b5 hg6 hb6 b46 HW4 X4 F4 G4 HFL
    go_wp2_with fail
    refine (HNS.out _ _ _).mono ?_
    rintro e w7 ⟨rfl, b7⟩
    have b78 := b7.alloc b7.size (.cells #[.int .u8 q, .slice (some ⟨w9.heap.size, 0, none⟩) n n] 87)
    clear hcp
    go_wp2_with fail
    refine (NewLineString_any q _ n n _).mono ?_
    rintro e w8 ⟨rfl, b8⟩
    have b68 : Below w6.heap.size w6 w8 := b78.trans (b8.mono (by rw [World.size_alloc]; have := b7.size; omega))
    have x8 := X6.out.below b68 X6.out.lt
    have HW8 := Hd (HW6.out.keep b68)
    have F8 := Hd (F6.out.below b68 F6.out.lt)
    have G8 := Hd (G6.out.trans (only_of_below b68 _))
    have c0 := x8.cell 0
    have c1 := x8.cell 1
    have z0 := x8.frozen 0
    have z1 := x8.frozen 1
    simp at c0 c1
    have e0 : (w8.setCell ⟨W.heap.size, 0, none⟩ (.int .u8 q)).cell? ⟨W.heap.size, 0, none⟩ = some (.int .u8 q) := by simpa using (x8.set_ 0 (.int .u8 q)).cell 0
    have e1 : ((w8.setCell ⟨W.heap.size, 0, none⟩ (.int .u8 q)).setCell ⟨W.heap.size, 1, none⟩ (.slice (some ⟨w9.heap.size, 0, none⟩) n n)).cell? ⟨W.heap.size, 1, none⟩ = some (.slice (some ⟨w9.heap.size, 0, none⟩) n n) := by simpa using ((x8.set_ 0 (.int .u8 q)).set_ 1 (.slice (some ⟨w9.heap.size, 0, none⟩) n n)).cell 1
    clear b7 b8 b78 b68 x8
    go_wp2
    refine bodyPost_ret (by simp [results, Tryz.results180, go_sem, e0, e1]; try rfl) rfl ?_
    refine ⟨some ⟨w9.heap.size, 0, none⟩, n, n, rfl, ⟨q, ns, rfl, some ⟨w9.heap.size, 0, none⟩, n, n, rfl, q0, q1, HN.out, HMD.out q rfl, HBB.out, fun _ => ⟨w9.heap.size, rfl, by omega, (F8.out.far (by show w9.heap.size ≠ W.heap.size; omega) _).far (by show w9.heap.size ≠ W.heap.size; omega) _⟩⟩, ?_, ?_⟩
    · exact HW8.out.under (below_two w8 W.heap.size _ _) hlr
    · exact grown_under G8.out (below_two w8 W.heap.size _ _) (Nat.le_refl _)
  · have hc9 : ¬ 8 * n = c := fun e => hc8 e.symm
    go_wp2_with fail
    have hw4 : Wp ((v7).setCell ⟨p, 0, none⟩ (.slice (some ⟨g, o + 8 * n, none⟩) (N - 8 * n) (c - 8 * n))) B p 0 false bs := Wp.cut_lt (a := numsB true ns) hpB HX.out HY.out (by rw [numsB_length, HN.out]) hc8
    have x4 : Blk ((v7).setCell ⟨p, 0, none⟩ (.slice (some ⟨g, o + 8 * n, none⟩) (N - 8 * n) (c - 8 * n))) W.heap.size 89 #[.int .u8 0, .slice none 0 0] := X3.out.far (by show W.heap.size ≠ p; omega) _
    have f4 : Blk ((v7).setCell ⟨p, 0, none⟩ (.slice (some ⟨g, o + 8 * n, none⟩) (N - 8 * n) (c - 8 * n))) w9.heap.size 73 (List.replicate n (.float .f64 0)).toArray := Blk.far HF.out (by show w9.heap.size ≠ p; omega) _
    have y4 : By ((v7).setCell ⟨p, 0, none⟩ (.slice (some ⟨g, o + 8 * n, none⟩) (N - 8 * n) (c - 8 * n))) (w9.heap.size + 2) (w9.heap.size + 1) 0 (8 * n) (8 * n) (numsB false ns) := By.of_blk (Blk.far F7.out (by show w9.heap.size + 1 ≠ p; omega) _) (by rw [numsB_length, HN.out]) (Nat.le_refl _) (by omega)
    have g4 : W.grownBy ((v7).setCell ⟨p, 0, none⟩ (.slice (some ⟨g, o + 8 * n, none⟩) (N - 8 * n) (c - 8 * n))) (some p) := G3.out.trans (grown_set _)
    have s4 : w9.heap.size + 1 ≤ ((v7).setCell ⟨p, 0, none⟩ (.slice (some ⟨g, o + 8 * n, none⟩) (N - 8 * n) (c - 8 * n))).heap.size := by simp only [World.setCell, Array.size_modify]; omega
    have s5 : (w9.heap.size + 2) ≤ ((v7).setCell ⟨p, 0, none⟩ (.slice (some ⟨g, o + 8 * n, none⟩) (N - 8 * n) (c - 8 * n))).heap.size := by simp only [World.setCell, Array.size_modify]; omega
    generalize ((v7).setCell ⟨p, 0, none⟩ (.slice (some ⟨g, o + 8 * n, none⟩) (N - 8 * n) (c - 8 * n))) = w4 at *
    have HW4 := Hd hw4
    have X4 := Hd x4
    have F4 := Hd f4
    have G4 := Hd g4
    have HFL := Hd (floats_any (c := (8 * n)) (r := []) HN.out (rfl : 8 * n = 8 * n) (by omega) HBB.out s5 y4)
    clear hw4 x4 f4 g4 y4 d0 d2 z0
    refine HFL.out.mono ?_
    rintro e w5 ⟨A5, c5, rfl, h5, b5⟩
    obtain ⟨w6, hcp, hg6, hb6⟩ := run_copy_made (P := Tryz.prog) (sT := 22) (ty := 3) (c := c5) (A := A5) (e := 73) (t := 73) (cs := flV ns) (n := n) Tryz.underlying22 (by kernel_rfl) (F4.out.below b5 F4.out.lt) (by rw [flV_length]; exact HN.out) (Nat.le_refl _) (fun h0 => by
      obtain ⟨g1, e, hb⟩ := h5 h0
      refine ⟨_, e, fun j v hv => ?_⟩
      have ha : (⟨g1, 0, none⟩ : Addr).add j = ⟨g1, j, none⟩ := by unfold Addr.add; split <;> simp_all
      rw [ha, hb.cell, List.getElem?_toArray]
      exact hv) (flV_one _)
    have b46 : Below w9.heap.size w4 w6 := (b5.mono (by omega)).trans (hb6 _ (Nat.le_refl _))
    have HW6 := Hd (HW4.out.under b46 (by omega))
    have X6 := Hd (X4.out.below b46 (by omega))
    have F6 : Hid (Blk w6 w9.heap.size 73 (flV ns).toArray) := Hd hg6
    have G6 := Hd (grown_under G4.out b46 (by omega))
    have s6 : w9.heap.size + 1 ≤ w6.heap.size := Nat.succ_le_of_lt F6.out.lt
    clear h5 b5 hg6 hb6 b46 HW4 X4 F4 G4 HFL
    go_wp2_with fail
    refine (HNS.out _ _ _).mono ?_
    rintro e w7 ⟨rfl, b7⟩
    have b78 := b7.alloc b7.size (.cells #[.int .u8 q, .slice (some ⟨w9.heap.size, 0, none⟩) n n] 87)
    clear hcp
    go_wp2_with fail
    refine (NewLineString_any q _ n n _).mono ?_
    rintro e w8 ⟨rfl, b8⟩
    have b68 : Below w6.heap.size w6 w8 := b78.trans (b8.mono (by rw [World.size_alloc]; have := b7.size; omega))
    have x8 := X6.out.below b68 X6.out.lt
    have HW8 := Hd (HW6.out.keep b68)
    have F8 := Hd (F6.out.below b68 F6.out.lt)
    have G8 := Hd (G6.out.trans (only_of_below b68 _))
    have c0 := x8.cell 0
    have c1 := x8.cell 1
    have z0 := x8.frozen 0
    have z1 := x8.frozen 1
    simp at c0 c1
    have e0 : (w8.setCell ⟨W.heap.size, 0, none⟩ (.int .u8 q)).cell? ⟨W.heap.size, 0, none⟩ = some (.int .u8 q) := by simpa using (x8.set_ 0 (.int .u8 q)).cell 0
    have e1 : ((w8.setCell ⟨W.heap.size, 0, none⟩ (.int .u8 q)).setCell ⟨W.heap.size, 1, none⟩ (.slice (some ⟨w9.heap.size, 0, none⟩) n n)).cell? ⟨W.heap.size, 1, none⟩ = some (.slice (some ⟨w9.heap.size, 0, none⟩) n n) := by simpa using ((x8.set_ 0 (.int .u8 q)).set_ 1 (.slice (some ⟨w9.heap.size, 0, none⟩) n n)).cell 1
    clear b7 b8 b78 b68 x8
    go_wp2
    refine bodyPost_ret (by simp [results, Tryz.results180, go_sem, e0, e1]; try rfl) rfl ?_
    refine ⟨some ⟨w9.heap.size, 0, none⟩, n, n, rfl, ⟨q, ns, rfl, some ⟨w9.heap.size, 0, none⟩, n, n, rfl, q0, q1, HN.out, HMD.out q rfl, HBB.out, fun _ => ⟨w9.heap.size, rfl, by omega, (F8.out.far (by show w9.heap.size ≠ W.heap.size; omega) _).far (by show w9.heap.size ≠ W.heap.size; omega) _⟩⟩, ?_, ?_⟩
    · exact HW8.out.under (below_two w8 W.heap.size _ _) hlr
    · exact grown_under G8.out (below_two w8 W.heap.size _ _) (Nat.le_refl _)

end Go.Proofs.YtofdccmmagcamaaGreatDoor
