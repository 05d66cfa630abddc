/- What Go functions compute, as plain Lean functions, and that each call comes to just that (written by a program of this session). -/
import Derived.Test.YtpbcfgehmalppaaGreatDoorQPtx0
namespace Go.Proofs.YtpbcfgehmalppaaGreatDoorW.QPt
open Go.RowKit Go.Proofs.YtpbcfgehmalppaaGreatDoorW.PrintWords Go.Proofs.YtpbcfgehmalppaaGreatDoorW.PrintLast Go.Proofs.YtpbcfgehmalppaaGreatDoorW.PrintMore
attribute [local go_sem] max2_int min2_int max_two min_two max_three min_three max_four min_four run_store_float fcmp_eql fcmp_neq fcmp_lss fcmp_leq fcmp_gtr fcmp_geq   -- for this text's walks alone
set_option linter.unusedVariables false
set_option linter.unusedSimpArgs false

/-! ### laws_gWeight: function 44 -/
mutual
def laws_gWeight.j0 : Nat → Int → Bool → Int → Int → List Nat → List (S25) → Option (Int)
  | 0, _, _, _, _, _, _ => none
  | k + 1, x1, x21, x102000, x102001, x102002, x102003 => if x21 = true then (some (-1)) else (laws_gWeight.l0 k (wrap64 ((wrap64 (x1 - 1)) - (x102002.length : Int))) 0 x102000 x102001 x102002 x102003)
def laws_gWeight.l0 : Nat → Int → Int → Int → Int → List Nat → List (S25) → Option (Int)
  | 0, _, _, _, _, _, _ => none
  | k + 1, x1, x5, x102000, x102001, x102002, x102003 => if x5 < (x102003.length : Int) then (if x1 ≥ 0 then (if 0 ≤ x5 then ((laws_gWeight.f k ((rd_T25 x102003 x5).f0) ((rd_T25 x102003 x5).f1) ((rd_T25 x102003 x5).f2) ((rd_T25 x102003 x5).f3) x1).bind fun t103 => (laws_gWeight.l0 k t103 (wrap64 (x5 + 1)) x102000 x102001 x102002 x102003)) else (none)) else (some x1)) else (some x1)
def laws_gWeight.f : Nat → Int → Int → List Nat → List (S25) → Int → Option (Int)
  | 0, _, _, _, _, _ => none
  | k + 1, a0_0, a0_1, l0_2, l0_3, a1 => if a1 < 1 then (laws_gWeight.j0 k a1 true a0_0 a0_1 l0_2 l0_3) else (if (l0_2.length : Int) > a1 then (laws_gWeight.j0 k a1 true a0_0 a0_1 l0_2 l0_3) else (laws_gWeight.j0 k a1 (decide ((l0_3.length : Int) > a1)) a0_0 a0_1 l0_2 l0_3))
end
theorem laws_gWeight.mono_l : ∀ k, (∀ y0 y1 y2 y3 y4, LeO (laws_gWeight.f k y0 y1 y2 y3 y4) (laws_gWeight.f (k + 1) y0 y1 y2 y3 y4)) ∧ (∀ y0 y1 y2 y3 y4 y5, LeO (laws_gWeight.j0 k y0 y1 y2 y3 y4 y5) (laws_gWeight.j0 (k + 1) y0 y1 y2 y3 y4 y5)) ∧ (∀ y0 y1 y2 y3 y4 y5, LeO (laws_gWeight.l0 k y0 y1 y2 y3 y4 y5) (laws_gWeight.l0 (k + 1) y0 y1 y2 y3 y4 y5))
  | 0 => ⟨fun _ _ _ _ _ r h => by simp [laws_gWeight.f] at h, fun _ _ _ _ _ _ r h => by simp [laws_gWeight.j0] at h, fun _ _ _ _ _ _ r h => by simp [laws_gWeight.l0] at h⟩
  | k + 1 => by
    obtain ⟨ih0, ih1, ih2⟩ := laws_gWeight.mono_l k
    refine ⟨?_, ?_, ?_⟩
    · intro y0 y1 y2 y3 y4
      unfold laws_gWeight.f
      repeat' first
      | (with_reducible exact ih0 _ _ _ _ _)
      | (with_reducible exact ih1 _ _ _ _ _ _)
      | (with_reducible exact ih2 _ _ _ _ _ _)
      | (with_reducible exact LeO.refl _)
      | (with_reducible exact LeO.none _)
      | (with_reducible refine LeO.ite ?_ ?_)
      | (with_reducible refine LeO.bind ?_ (fun _ => ?_))
      | exact ih0 _ _ _ _ _
      | exact ih1 _ _ _ _ _ _
      | exact ih2 _ _ _ _ _ _
      | exact LeO.none _
      | refine LeO.ite ?_ ?_
      | refine LeO.bind ?_ (fun _ => ?_)
    · intro y0 y1 y2 y3 y4 y5
      unfold laws_gWeight.j0
      repeat' first
      | (with_reducible exact ih0 _ _ _ _ _)
      | (with_reducible exact ih1 _ _ _ _ _ _)
      | (with_reducible exact ih2 _ _ _ _ _ _)
      | (with_reducible exact LeO.refl _)
      | (with_reducible exact LeO.none _)
      | (with_reducible refine LeO.ite ?_ ?_)
      | (with_reducible refine LeO.bind ?_ (fun _ => ?_))
      | exact ih0 _ _ _ _ _
      | exact ih1 _ _ _ _ _ _
      | exact ih2 _ _ _ _ _ _
      | exact LeO.none _
      | refine LeO.ite ?_ ?_
      | refine LeO.bind ?_ (fun _ => ?_)
    · intro y0 y1 y2 y3 y4 y5
      unfold laws_gWeight.l0
      repeat' first
      | (with_reducible exact ih0 _ _ _ _ _)
      | (with_reducible exact ih1 _ _ _ _ _ _)
      | (with_reducible exact ih2 _ _ _ _ _ _)
      | (with_reducible exact LeO.refl _)
      | (with_reducible exact LeO.none _)
      | (with_reducible refine LeO.ite ?_ ?_)
      | (with_reducible refine LeO.bind ?_ (fun _ => ?_))
      | exact ih0 _ _ _ _ _
      | exact ih1 _ _ _ _ _ _
      | exact ih2 _ _ _ _ _ _
      | exact LeO.none _
      | refine LeO.ite ?_ ?_
      | refine LeO.bind ?_ (fun _ => ?_)
theorem laws_gWeight.mono : ∀ a0 a1 a2 a3 a4 k, LeO (laws_gWeight.f k a0 a1 a2 a3 a4) (laws_gWeight.f (k + 1) a0 a1 a2 a3 a4) := by
  intro a0 a1 a2 a3 a4 k
  obtain ⟨ih0, ih1, ih2⟩ := laws_gWeight.mono_l k
  exact ih0 a0 a1 a2 a3 a4
set_option maxHeartbeats 8000000 in
set_option maxRecDepth 100000 in
theorem laws_gWeight.calls (k : Nat) : ∀ (a0_0 : Int) (a0_1 : Int) (A0_2 : Option Addr) (c0_2 : Nat) (l0_2 : List Nat) (A0_3 : Option Addr) (c0_3 : Nat) (l0_3 : List (S25)) (a1 : Int) (r : Int) (w : World) (hr0_2 : Kd.C Kd.float w A0_2 l0_2.length l0_2) (hc0_2 : l0_2.length ≤ c0_2) (hr0_3 : Kd.C k25 w A0_3 l0_3.length l0_3) (hc0_3 : l0_3.length ≤ c0_3) (h : laws_gWeight.f k a0_0 a0_1 l0_2 l0_3 a1 = some r),
    Calls Tryz.prog 44 #[.agg #[.int .i64 a0_0, .int .i64 a0_1, .slice A0_2 l0_2.length c0_2, .slice A0_3 l0_3.length c0_3], .int .i64 a1] w fun e w' => e = .returned (.int .i64 r) ∧ Below w.heap.size w w' := by
  induction k using Nat.strongRecOn with
  | _ k ih =>
  intro a0_0 a0_1 A0_2 c0_2 l0_2 A0_3 c0_3 l0_3 a1 r w hr0_2 hc0_2 hr0_3 hc0_3 h
  cases k with
  | zero => exact absurd h (by simp [laws_gWeight.f])
  | succ k =>
  simp only [laws_gWeight.f] at h
  have hu25 := Tryz.underlying25
  have HR0_2 := Aside0.mk hr0_2
  have HC0_2 := Aside0.mk hc0_2
  clear hr0_2 hc0_2
  have HR0_3 := Aside0.mk hr0_3
  have HC0_3 := Aside0.mk hc0_3
  clear hr0_3 hc0_3
  have HB := Aside0.mk (Below.refl w.heap.size w)
  have H : (if a1 < 1 then (laws_gWeight.j0 k a1 true a0_0 a0_1 l0_2 l0_3) else (if (l0_2.length : Int) > a1 then (laws_gWeight.j0 k a1 true a0_0 a0_1 l0_2 l0_3) else (laws_gWeight.j0 k a1 (decide ((l0_3.length : Int) > a1)) a0_0 a0_1 l0_2 l0_3))) = some r := h
  clear h
  have HC3 := Aside0.mk H
  clear H
  go_enter Tryz.func44, Tryz.ntmps44
  go_upto_region 1 with (first | ((with_reducible refine gate_dst (N := 2) rfl ?_); (try (refine gate_guard (by rfl) ?_; dsimp only)); refine box_event ?hg (N := 2) ?hd (cs := #[.int .i64 a0_0, .int .i64 a0_1, .slice A0_2 l0_2.length c0_2, .slice A0_3 l0_3.length c0_3]) (t := 25) ?hr ?_; (case hd => rfl); (case hg => rfl); (case hr => first | (go_simp; done) | (go_simp; rfl)); intro gb101 hg w4 hbox hb; have n0_ := Aside0.mk (below_step (by repeat (first | (with_reducible first | exact HB.out | apply below_alloc | apply pw_below_drewN | apply below_drew1) | exact HB.out)) hb); have n1_ := Aside0.mk (hbox); have n2_ := Aside0.mk ((by rw [hg]; exact (below_size (by repeat (first | (with_reducible first | exact HB.out | apply below_alloc | apply pw_below_drewN | apply below_drew1) | exact HB.out))) : w.heap.size ≤ gb101)); have n3_ := Aside0.mk ((by rw [hg]; exact (below_size (by repeat (first | (with_reducible first | exact HB.out | apply below_alloc | apply pw_below_drewN | apply below_drew1) | exact HB.out))) : w.heap.size ≤ gb101)); clear HB; have HB := n0_; have BK101 := n1_; have GW101 := n2_; have GE101 := n3_; clear n0_ n1_ n2_ n3_; clear hb hbox hg))
  (try simp only [Act.put, List.setIfInBounds_toArray, List.set_cons_zero, List.set_cons_succ])
  go_cut [21] (fun v21 wc => ∃ (kq : Nat) (x21_2 : Bool), v21 = .bool x21_2 ∧ Aside0 (laws_gWeight.j0 kq a1 x21_2 a0_0 a0_1 l0_2 l0_3 = some r) ∧ Aside0 (kq ≤ k) ∧ Aside0 (wc.heap[gb101]? = some (.cells #[.int .i64 a0_0, .int .i64 a0_1, (.slice A0_2 l0_2.length c0_2), (.slice A0_3 l0_3.length c0_3)] 25 (0, 0))) ∧ Aside0 (Below w.heap.size w wc))
  case first =>
    have H := HC3.out
    clear HC3
    by_cases c5 : a1 < 1
    · rw [if_pos c5] at H
      have c5b0 : decide (a1 < 1) = true := decide_eq_true c5
      clear c5
      (first | rw [c5b0] | (simp only [i64_w, i32_w]; rw [c5b0]) | rw [c5b1] | skip)
      have H' := Aside0.mk H
      clear H
      go_wp2
      go_meet
      case rel => exact ⟨_, (true), (by first | rfl | (simp; done) | (simp [*]; done)), H', ⟨by first | omega | exact Nat.le_refl _⟩, ⟨by (with_reducible repeat (first | refine blk_drewN ?_ _ | refine blk_drew ?_ | refine blk_alloc ?_ _)); exact BK101.out⟩, ⟨by repeat (first | (with_reducible first | exact HB.out | apply below_alloc | apply pw_below_drewN | apply below_drew1 | refine below_set ?_ GE101.out) | exact HB.out)⟩⟩
    · rw [if_neg c5] at H
      have c5b0 : decide (a1 < 1) = false := decide_eq_false c5
      clear c5
      (first | rw [c5b0] | (simp only [i64_w, i32_w]; rw [c5b0]) | rw [c5b1] | skip)
      by_cases c6 : (l0_2.length : Int) > a1
      · rw [if_pos c6] at H
        have c6b0 : decide (a1 < (l0_2.length : Int)) = true := decide_eq_true c6
        clear c6
        have H' := Aside0.mk H
        clear H
        have hcz7_0 : w4.cell? ⟨gb101, 0, none⟩ = some (.int .i64 a0_0) := (blk_cell BK101.out 0).trans rfl
        have hcz7_1 : w4.cell? ⟨gb101, 1, none⟩ = some (.int .i64 a0_1) := (blk_cell BK101.out 1).trans rfl
        have hcz7_2 : w4.cell? ⟨gb101, 2, none⟩ = some (.slice A0_2 l0_2.length c0_2) := (blk_cell BK101.out 2).trans rfl
        have hcz7_3 : w4.cell? ⟨gb101, 3, none⟩ = some (.slice A0_3 l0_3.length c0_3) := (blk_cell BK101.out 3).trans rfl
        have hfz7_0 := blk_frozen BK101.out 0
        have hfz7_1 := blk_frozen BK101.out 1
        have hfz7_2 := blk_frozen BK101.out 2
        have hfz7_3 := blk_frozen BK101.out 3
        go_wp2
        go_meet
        case rel => exact ⟨_, (true), (by first | rfl | (simp; done) | (simp [*]; done)), H', ⟨by first | omega | exact Nat.le_refl _⟩, ⟨by (with_reducible repeat (first | refine blk_drewN ?_ _ | refine blk_drew ?_ | refine blk_alloc ?_ _)); exact BK101.out⟩, ⟨by repeat (first | (with_reducible first | exact HB.out | apply below_alloc | apply pw_below_drewN | apply below_drew1 | refine below_set ?_ GE101.out) | exact HB.out)⟩⟩
      · rw [if_neg c6] at H
        have c6b0 : decide (a1 < (l0_2.length : Int)) = false := decide_eq_false c6
        clear c6
        have H' := Aside0.mk H
        clear H
        have hcz8_0 : w4.cell? ⟨gb101, 0, none⟩ = some (.int .i64 a0_0) := (blk_cell BK101.out 0).trans rfl
        have hcz8_1 : w4.cell? ⟨gb101, 1, none⟩ = some (.int .i64 a0_1) := (blk_cell BK101.out 1).trans rfl
        have hcz8_2 : w4.cell? ⟨gb101, 2, none⟩ = some (.slice A0_2 l0_2.length c0_2) := (blk_cell BK101.out 2).trans rfl
        have hcz8_3 : w4.cell? ⟨gb101, 3, none⟩ = some (.slice A0_3 l0_3.length c0_3) := (blk_cell BK101.out 3).trans rfl
        have hfz8_0 := blk_frozen BK101.out 0
        have hfz8_1 := blk_frozen BK101.out 1
        have hfz8_2 := blk_frozen BK101.out 2
        have hfz8_3 := blk_frozen BK101.out 3
        go_wp2
        go_meet
        case rel => exact ⟨_, (decide ((l0_3.length : Int) > a1)), (by first | rfl | (simp; done) | (simp [*]; done)), H', ⟨by first | omega | exact Nat.le_refl _⟩, ⟨by (with_reducible repeat (first | refine blk_drewN ?_ _ | refine blk_drew ?_ | refine blk_alloc ?_ _)); exact BK101.out⟩, ⟨by repeat (first | (with_reducible first | exact HB.out | apply below_alloc | apply pw_below_drewN | apply below_drew1 | refine below_set ?_ GE101.out) | exact HB.out)⟩⟩
  case rest =>
    clear HC3
    try clear p2
    try clear c4
    try clear c5
    try clear c5b0
    try clear c5b1
    try clear c6
    try clear c6b0
    try clear hcz7_0
    try clear hcz7_1
    try clear hcz7_2
    try clear hcz7_3
    try clear hcz8_0
    try clear hcz8_1
    try clear hcz8_2
    try clear hcz8_3
    try clear hfz7_0
    try clear hfz7_1
    try clear hfz7_2
    try clear hfz7_3
    try clear hfz8_0
    try clear hfz8_1
    try clear hfz8_2
    try clear hfz8_3
    obtain ⟨kq, x21_2, rfl, HA, HJ2, BK101, HB⟩ := hcut
    cases kq with
    | zero => exact absurd HA.out (by simp [laws_gWeight.j0])
    | succ kj2 =>
      have H := HA.out
      clear HA
      simp only [laws_gWeight.j0] at H
      by_cases c9 : x21_2 = true
      · subst c9
        have H1 : (some (-1)) = some r := by rw [if_pos rfl] at H; exact H
        clear H
        have H := H1
        clear H1
        obtain rfl := Option.some.inj H
        go_wp2
        go_ret
        exact ⟨by first | rfl | (simp [errW_none, errW_some] <;> rfl) | (simp [*, errW_none, errW_some] <;> rfl), by repeat (first | (with_reducible first | exact HB.out | apply below_alloc | apply pw_below_drewN | apply below_drew1 | refine below_set ?_ GE101.out) | exact HB.out)⟩
      · replace c9 := Bool.eq_false_iff.mpr c9
        subst c9
        have H1 : (laws_gWeight.l0 kj2 (wrap64 ((wrap64 (a1 - 1)) - (l0_2.length : Int))) 0 a0_0 a0_1 l0_2 l0_3) = some r := by rw [if_neg (show ¬ (false = true) by decide)] at H; exact H
        clear H
        have H := H1
        clear H1
        have H' := Aside0.mk H
        clear H
        have hcz10_0 : wc.cell? ⟨gb101, 0, none⟩ = some (.int .i64 a0_0) := (blk_cell BK101.out 0).trans rfl
        have hcz10_1 : wc.cell? ⟨gb101, 1, none⟩ = some (.int .i64 a0_1) := (blk_cell BK101.out 1).trans rfl
        have hcz10_2 : wc.cell? ⟨gb101, 2, none⟩ = some (.slice A0_2 l0_2.length c0_2) := (blk_cell BK101.out 2).trans rfl
        have hcz10_3 : wc.cell? ⟨gb101, 3, none⟩ = some (.slice A0_3 l0_3.length c0_3) := (blk_cell BK101.out 3).trans rfl
        have hfz10_0 := blk_frozen BK101.out 0
        have hfz10_1 := blk_frozen BK101.out 1
        have hfz10_2 := blk_frozen BK101.out 2
        have hfz10_3 := blk_frozen BK101.out 3
        go_wp2
        go_loopg [1, 5] kj2 (fun kq v1 v5 w' => ∃ (x1_2 : Int) (x5_2 : Int), v1 = .int .i64 x1_2 ∧ v5 = .int .i64 x5_2 ∧ Aside0 (laws_gWeight.l0 kq x1_2 x5_2 a0_0 a0_1 l0_2 l0_3 = some r) ∧ Aside0 (kq ≤ kj2) ∧ Aside0 (w'.heap[gb101]? = some (.cells #[.int .i64 a0_0, .int .i64 a0_1, (.slice A0_2 l0_2.length c0_2), (.slice A0_3 l0_3.length c0_3)] 25 (0, 0))) ∧ Aside0 (Below w.heap.size w w'))
        case atStart => exact ⟨(wrap64 ((wrap64 (a1 - 1)) - (l0_2.length : Int))), (0), (by first | rfl | (simp; done) | (simp [*]; done)), (by first | rfl | (simp; done) | (simp [*]; done)), H', ⟨Nat.le_refl _⟩, ⟨by (with_reducible repeat (first | refine blk_drewN ?_ _ | refine blk_drew ?_ | refine blk_alloc ?_ _)); exact BK101.out⟩, ⟨by repeat (first | (with_reducible first | exact HB.out | apply below_alloc | apply pw_below_drewN | apply below_drew1 | refine below_set ?_ GE101.out) | exact HB.out)⟩⟩
        case round =>
          clear H'
          try clear p2
          try clear c4
          try clear c5
          try clear c5b0
          try clear c5b1
          try clear c6
          try clear c6b0
          try clear p6
          try clear c9
          try clear hcz10_0
          try clear hcz10_1
          try clear hcz10_2
          try clear hcz10_3
          try clear hcz7_0
          try clear hcz7_1
          try clear hcz7_2
          try clear hcz7_3
          try clear hcz8_0
          try clear hcz8_1
          try clear hcz8_2
          try clear hcz8_3
          try clear hfz10_0
          try clear hfz10_1
          try clear hfz10_2
          try clear hfz10_3
          try clear hfz7_0
          try clear hfz7_1
          try clear hfz7_2
          try clear hfz7_3
          try clear hfz8_0
          try clear hfz8_1
          try clear hfz8_2
          try clear hfz8_3
          try clear p2
          obtain ⟨x1_2, x5_2, rfl, rfl, HA, HK2, BK101, HB⟩ := hrel
          cases gk with
          | zero => exact absurd HA.out (by simp [laws_gWeight.l0])
          | succ k2 =>
            have H := HA.out
            clear HA
            simp only [laws_gWeight.l0] at H
            by_cases c11 : x5_2 < (l0_3.length : Int)
            · rw [if_pos c11] at H
              have c11b0 : decide (x5_2 < (l0_3.length : Int)) = true := decide_eq_true c11
              clear c11
              by_cases c12 : x1_2 ≥ 0
              · rw [if_pos c12] at H
                have c12b0 : decide (0 ≤ x1_2) = true := decide_eq_true c12
                clear c12
                by_cases c13 : 0 ≤ x5_2
                · rw [if_pos c13] at H
                  have c13b0 : decide (0 ≤ x5_2) = true := decide_eq_true c13
                  clear c13
                  replace H := Option.bind_eq_some_iff.mp H
                  obtain ⟨t103, A140, H⟩ := H
                  replace H : (laws_gWeight.l0 k2 t103 (wrap64 (x5_2 + 1)) a0_0 a0_1 l0_2 l0_3) = some r := H
                  have A14 := Aside0.mk A140
                  clear A140
                  have H' := Aside0.mk H
                  clear H
                  have hcz15_0 : wr.cell? ⟨gb101, 0, none⟩ = some (.int .i64 a0_0) := (blk_cell BK101.out 0).trans rfl
                  have hcz15_1 : wr.cell? ⟨gb101, 1, none⟩ = some (.int .i64 a0_1) := (blk_cell BK101.out 1).trans rfl
                  have hcz15_2 : wr.cell? ⟨gb101, 2, none⟩ = some (.slice A0_2 l0_2.length c0_2) := (blk_cell BK101.out 2).trans rfl
                  have hcz15_3 : wr.cell? ⟨gb101, 3, none⟩ = some (.slice A0_3 l0_3.length c0_3) := (blk_cell BK101.out 3).trans rfl
                  have hfz15_0 := blk_frozen BK101.out 0
                  have hfz15_1 := blk_frozen BK101.out 1
                  have hfz15_2 := blk_frozen BK101.out 2
                  have hfz15_3 := blk_frozen BK101.out 3
                  have p102 : 0 ≤ (x5_2 : Int) := of_decide_eq_true (by first | (with_reducible assumption) | assumption)
                  have q102 : x5_2 < (l0_3.length : Int) := of_decide_eq_true (by first | (with_reducible assumption) | assumption)
                  obtain ⟨ad102, A102_2, c102_2, A102_3, c102_3, e102, hx102_0, hx102_1, hx102_2, hx102_3, hl102_2, hi102_2, hl102_3, hi102_3⟩ := at_T25 HR0_3.out x5_2 p102 q102
                  cases e102
                  replace hx102_0 := (HB.out.cell (World.block_lt_of_cell? w _ hx102_0)).trans hx102_0
                  replace hx102_1 := (HB.out.cell (World.block_lt_of_cell? w _ hx102_1)).trans hx102_1
                  replace hx102_2 := (HB.out.cell (World.block_lt_of_cell? w _ hx102_2)).trans hx102_2
                  replace hx102_3 := (HB.out.cell (World.block_lt_of_cell? w _ hx102_3)).trans hx102_3
                  have HR102_2 := Aside0.mk hi102_2
                  have HC102_2 := Aside0.mk hl102_2
                  clear hi102_2 hl102_2
                  have HR102_3 := Aside0.mk hi102_3
                  have HC102_3 := Aside0.mk hl102_3
                  clear hi102_3 hl102_3
                  replace p102 := eq_true p102
                  replace q102 := eq_true q102
                  go_wp2_with (first | ((with_reducible refine gate_callee (f := 44) rfl ?_); refine goesL_ (some 45) rfl rfl Tryz.func44 (by kernel_rfl) rfl #[.agg #[.int .i64 ((rd_T25 l0_3 x5_2).f0), .int .i64 ((rd_T25 l0_3 x5_2).f1), .slice A102_2 ((rd_T25 l0_3 x5_2).f2).length c102_2, .slice A102_3 ((rd_T25 l0_3 x5_2).f3).length c102_3], .int .i64 x1_2] rfl (by (try simp only [List.map_toArray, List.map_cons, List.map_nil]); first | done | rfl | (simp only [List.length_drop, List.length_take]; rfl)) ?_; (with_reducible refine (ih k2 (by have := HJ2.out; have := HK2.out; omega) ((rd_T25 l0_3 x5_2).f0) ((rd_T25 l0_3 x5_2).f1) _ _ ((rd_T25 l0_3 x5_2).f2) _ _ ((rd_T25 l0_3 x5_2).f3) x1_2 t103 _ ?side1 ?side2 ?side3 ?side4 A14.out).mono ?_); (case side1 => repeat (first | exact (Kd.C_below HR102_2.out HB.out) | (with_reducible refine Kd.C_alloc ?_ _) | (with_reducible refine Kd.C_drewN ?_ _) | (with_reducible refine Kd.C_drew ?_))); (case side2 => exact HC102_2.out); (case side3 => repeat (first | exact (Kd.C_below HR102_3.out HB.out) | (with_reducible refine Kd.C_alloc ?_ _) | (with_reducible refine Kd.C_drewN ?_ _) | (with_reducible refine Kd.C_drew ?_))); (case side4 => exact HC102_3.out); rintro e w16 ⟨rfl, hb⟩; refine ⟨_, rfl, ?_⟩; have n0_ := Aside0.mk (blk_below (g := gb101) (o := .cells #[.int .i64 a0_0, .int .i64 a0_1, .slice A0_2 l0_2.length c0_2, .slice (some ad102) l0_3.length c0_3] 25 (0, 0)) (by (with_reducible repeat (first | refine blk_drewN ?_ _ | refine blk_drew ?_ | refine blk_alloc ?_ _)); exact BK101.out) hb); have n1_ := Aside0.mk (below_step (by repeat (first | (with_reducible first | exact HB.out | apply below_alloc | apply pw_below_drewN | apply below_drew1 | refine below_set ?_ GE101.out) | exact HB.out)) hb); clear BK101; clear HB; have BK101 := n0_; have HB := n1_; clear n0_ n1_; (try clear hb); (try clear hb2); (try clear hk); (try clear hi)))
                  go_roundg k2
                  case measure => have := HJ2.out; have := HK2.out; omega
                  case rel => exact ⟨(t103), (wrap64 (x5_2 + 1)), (by first | rfl | (simp; done) | (simp [*]; done)), (by first | rfl | (simp; done) | (simp [*]; done)), H', ⟨by have := HJ2.out; have := HK2.out; omega⟩, ⟨by (with_reducible repeat (first | refine blk_drewN ?_ _ | refine blk_drew ?_ | refine blk_alloc ?_ _)); exact BK101.out⟩, ⟨by repeat (first | (with_reducible first | exact HB.out | apply below_alloc | apply pw_below_drewN | apply below_drew1 | refine below_set ?_ GE101.out) | exact HB.out)⟩⟩
                · rw [if_neg c13] at H
                  exact absurd H (by simp)
              · rw [if_neg c12] at H
                have c12b0 : decide (0 ≤ x1_2) = false := decide_eq_false c12
                clear c12
                obtain rfl := Option.some.inj H
                have hcz17_0 : wr.cell? ⟨gb101, 0, none⟩ = some (.int .i64 a0_0) := (blk_cell BK101.out 0).trans rfl
                have hcz17_1 : wr.cell? ⟨gb101, 1, none⟩ = some (.int .i64 a0_1) := (blk_cell BK101.out 1).trans rfl
                have hcz17_2 : wr.cell? ⟨gb101, 2, none⟩ = some (.slice A0_2 l0_2.length c0_2) := (blk_cell BK101.out 2).trans rfl
                have hcz17_3 : wr.cell? ⟨gb101, 3, none⟩ = some (.slice A0_3 l0_3.length c0_3) := (blk_cell BK101.out 3).trans rfl
                have hfz17_0 := blk_frozen BK101.out 0
                have hfz17_1 := blk_frozen BK101.out 1
                have hfz17_2 := blk_frozen BK101.out 2
                have hfz17_3 := blk_frozen BK101.out 3
                go_wp2
                go_ret
                exact ⟨by first | rfl | (simp [errW_none, errW_some] <;> rfl) | (simp [*, errW_none, errW_some] <;> rfl), by repeat (first | (with_reducible first | exact HB.out | apply below_alloc | apply pw_below_drewN | apply below_drew1 | refine below_set ?_ GE101.out) | exact HB.out)⟩
            · rw [if_neg c11] at H
              have c11b0 : decide (x5_2 < (l0_3.length : Int)) = false := decide_eq_false c11
              clear c11
              obtain rfl := Option.some.inj H
              have hcz18_0 : wr.cell? ⟨gb101, 0, none⟩ = some (.int .i64 a0_0) := (blk_cell BK101.out 0).trans rfl
              have hcz18_1 : wr.cell? ⟨gb101, 1, none⟩ = some (.int .i64 a0_1) := (blk_cell BK101.out 1).trans rfl
              have hcz18_2 : wr.cell? ⟨gb101, 2, none⟩ = some (.slice A0_2 l0_2.length c0_2) := (blk_cell BK101.out 2).trans rfl
              have hcz18_3 : wr.cell? ⟨gb101, 3, none⟩ = some (.slice A0_3 l0_3.length c0_3) := (blk_cell BK101.out 3).trans rfl
              have hfz18_0 := blk_frozen BK101.out 0
              have hfz18_1 := blk_frozen BK101.out 1
              have hfz18_2 := blk_frozen BK101.out 2
              have hfz18_3 := blk_frozen BK101.out 3
              go_wp2
              go_ret
              exact ⟨by first | rfl | (simp [errW_none, errW_some] <;> rfl) | (simp [*, errW_none, errW_some] <;> rfl), by repeat (first | (with_reducible first | exact HB.out | apply below_alloc | apply pw_below_drewN | apply below_drew1 | refine below_set ?_ GE101.out) | exact HB.out)⟩

/-! ### laws_gSmall: function 18 -/
def laws_gSmall.l0 : Nat → List (S25) → Int → Int → Option (Bool)
  | 0, _, _, _ => none
  | k + 1, x0, x3, x4 => if x4 < (x0.length : Int) then (if x3 ≥ 0 then (if 0 ≤ x4 then ((laws_gWeight.f k ((rd_T25 x0 x4).f0) ((rd_T25 x0 x4).f1) ((rd_T25 x0 x4).f2) ((rd_T25 x0 x4).f3) x3).bind fun t105 => (laws_gSmall.l0 k x0 t105 (wrap64 (x4 + 1)))) else (none)) else (some (decide (x3 ≥ 0)))) else (some (decide (x3 ≥ 0)))
def laws_gSmall.f (k : Nat) (l0 : List (S25)) : Option (Bool) := laws_gSmall.l0 k l0 2000 0
theorem laws_gSmall.mono_l : ∀ k, (∀ y0 y1 y2, LeO (laws_gSmall.l0 k y0 y1 y2) (laws_gSmall.l0 (k + 1) y0 y1 y2))
  | 0 => fun _ _ _ r h => by simp [laws_gSmall.l0] at h
  | k + 1 => by
    have ih0 := laws_gSmall.mono_l k
    · intro y0 y1 y2
      unfold laws_gSmall.l0
      repeat' first
      | (with_reducible exact ih0 _ _ _)
      | (with_reducible exact laws_gWeight.mono _ _ _ _ _ _)
      | (with_reducible exact LeO.refl _)
      | (with_reducible exact LeO.none _)
      | (with_reducible refine LeO.ite ?_ ?_)
      | (with_reducible refine LeO.bind ?_ (fun _ => ?_))
      | exact ih0 _ _ _
      | exact laws_gWeight.mono _ _ _ _ _ _
      | exact LeO.none _
      | refine LeO.ite ?_ ?_
      | refine LeO.bind ?_ (fun _ => ?_)
theorem laws_gSmall.mono : ∀ a0 k, LeO (laws_gSmall.f k a0) (laws_gSmall.f (k + 1) a0) := by
  intro a0 k
  have ih0 := laws_gSmall.mono_l k
  unfold laws_gSmall.f
  repeat' first
      | (with_reducible exact ih0 _ _ _)
      | (with_reducible exact laws_gWeight.mono _ _ _ _ _ _)
      | (with_reducible exact LeO.refl _)
      | (with_reducible exact LeO.none _)
      | (with_reducible refine LeO.ite ?_ ?_)
      | (with_reducible refine LeO.bind ?_ (fun _ => ?_))
      | exact ih0 _ _ _
      | exact laws_gWeight.mono _ _ _ _ _ _
      | exact LeO.none _
      | refine LeO.ite ?_ ?_
      | refine LeO.bind ?_ (fun _ => ?_)
set_option maxHeartbeats 8000000 in
set_option maxRecDepth 100000 in
theorem laws_gSmall.calls (k : Nat) (A0 : Option Addr) (c0 : Nat) (l0 : List (S25)) (r : Bool) (w : World) (hr0 : Kd.C k25 w A0 l0.length l0) (hc0 : l0.length ≤ c0) (h : laws_gSmall.f k l0 = some r) :
    Calls Tryz.prog 18 #[.slice A0 l0.length c0] w fun e w' => e = .returned (.bool r) ∧ Below w.heap.size w w' := by
  have hu25 := Tryz.underlying25
  have HR0 := Aside0.mk hr0
  have HC0 := Aside0.mk hc0
  clear hr0 hc0
  have HB := Aside0.mk (Below.refl w.heap.size w)
  have H : (laws_gSmall.l0 k l0 2000 0) = some r := h
  clear h
  have H' := Aside0.mk H
  clear H
  go_enter Tryz.func18, Tryz.ntmps18
  go_wp2
  go_loopg [3, 4] k (fun kq v3 v4 w' => ∃ (x3_1 : Int) (x4_1 : Int), v3 = .int .i64 x3_1 ∧ v4 = .int .i64 x4_1 ∧ Aside0 (laws_gSmall.l0 kq l0 x3_1 x4_1 = some r) ∧ Aside0 (kq ≤ k) ∧ Aside0 (Below w.heap.size w w'))
  case atStart => exact ⟨(2000), (0), (by first | rfl | (simp; done) | (simp [*]; done)), (by first | rfl | (simp; done) | (simp [*]; done)), H', ⟨Nat.le_refl _⟩, ⟨by repeat (first | (with_reducible first | exact HB.out | apply below_alloc | apply pw_below_drewN | apply below_drew1) | exact HB.out)⟩⟩
  case round =>
    clear H'
    try clear c1
    obtain ⟨x3_1, x4_1, rfl, rfl, HA, HK1, HB⟩ := hrel
    cases gk with
    | zero => exact absurd HA.out (by simp [laws_gSmall.l0])
    | succ k1 =>
      have H := HA.out
      clear HA
      simp only [laws_gSmall.l0] at H
      by_cases c2 : x4_1 < (l0.length : Int)
      · rw [if_pos c2] at H
        have c2b0 : decide (x4_1 < (l0.length : Int)) = true := decide_eq_true c2
        clear c2
        by_cases c3 : x3_1 ≥ 0
        · rw [if_pos c3] at H
          have c3b0 : decide (0 ≤ x3_1) = true := decide_eq_true c3
          clear c3
          by_cases c4 : 0 ≤ x4_1
          · rw [if_pos c4] at H
            have c4b0 : decide (0 ≤ x4_1) = true := decide_eq_true c4
            clear c4
            replace H := Option.bind_eq_some_iff.mp H
            obtain ⟨t105, A50, H⟩ := H
            replace H : (laws_gSmall.l0 k1 l0 t105 (wrap64 (x4_1 + 1))) = some r := H
            have A5 := Aside0.mk A50
            clear A50
            have H' := Aside0.mk H
            clear H
            have p104 : 0 ≤ (x4_1 : Int) := of_decide_eq_true (by first | (with_reducible assumption) | assumption)
            have q104 : x4_1 < (l0.length : Int) := of_decide_eq_true (by first | (with_reducible assumption) | assumption)
            obtain ⟨ad104, A104_2, c104_2, A104_3, c104_3, e104, hx104_0, hx104_1, hx104_2, hx104_3, hl104_2, hi104_2, hl104_3, hi104_3⟩ := at_T25 HR0.out x4_1 p104 q104
            cases e104
            replace hx104_0 := (HB.out.cell (World.block_lt_of_cell? w _ hx104_0)).trans hx104_0
            replace hx104_1 := (HB.out.cell (World.block_lt_of_cell? w _ hx104_1)).trans hx104_1
            replace hx104_2 := (HB.out.cell (World.block_lt_of_cell? w _ hx104_2)).trans hx104_2
            replace hx104_3 := (HB.out.cell (World.block_lt_of_cell? w _ hx104_3)).trans hx104_3
            have HR104_2 := Aside0.mk hi104_2
            have HC104_2 := Aside0.mk hl104_2
            clear hi104_2 hl104_2
            have HR104_3 := Aside0.mk hi104_3
            have HC104_3 := Aside0.mk hl104_3
            clear hi104_3 hl104_3
            replace p104 := eq_true p104
            replace q104 := eq_true q104
            go_wp2_with (first | ((with_reducible refine gate_callee (f := 44) rfl ?_); refine goesL_ (some 20) rfl rfl Tryz.func44 (by kernel_rfl) rfl #[.agg #[.int .i64 ((rd_T25 l0 x4_1).f0), .int .i64 ((rd_T25 l0 x4_1).f1), .slice A104_2 ((rd_T25 l0 x4_1).f2).length c104_2, .slice A104_3 ((rd_T25 l0 x4_1).f3).length c104_3], .int .i64 x3_1] rfl (by (try simp only [List.map_toArray, List.map_cons, List.map_nil]); first | done | rfl | (simp only [List.length_drop, List.length_take]; rfl)) ?_; (with_reducible refine (laws_gWeight.calls k1 ((rd_T25 l0 x4_1).f0) ((rd_T25 l0 x4_1).f1) _ _ ((rd_T25 l0 x4_1).f2) _ _ ((rd_T25 l0 x4_1).f3) x3_1 t105 _ ?side1 ?side2 ?side3 ?side4 A5.out).mono ?_); (case side1 => repeat (first | exact (Kd.C_below HR104_2.out HB.out) | (with_reducible refine Kd.C_alloc ?_ _) | (with_reducible refine Kd.C_drewN ?_ _) | (with_reducible refine Kd.C_drew ?_))); (case side2 => exact HC104_2.out); (case side3 => repeat (first | exact (Kd.C_below HR104_3.out HB.out) | (with_reducible refine Kd.C_alloc ?_ _) | (with_reducible refine Kd.C_drewN ?_ _) | (with_reducible refine Kd.C_drew ?_))); (case side4 => exact HC104_3.out); rintro e w6 ⟨rfl, hb⟩; refine ⟨_, rfl, ?_⟩; have n0_ := Aside0.mk (below_step (by repeat (first | (with_reducible first | exact HB.out | apply below_alloc | apply pw_below_drewN | apply below_drew1) | exact HB.out)) hb); clear HB; have HB := n0_; clear n0_; (try clear hb); (try clear hb2); (try clear hk); (try clear hi)))
            go_roundg k1
            case measure => have := HK1.out; omega
            case rel => exact ⟨(t105), (wrap64 (x4_1 + 1)), (by first | rfl | (simp; done) | (simp [*]; done)), (by first | rfl | (simp; done) | (simp [*]; done)), H', ⟨by have := HK1.out; omega⟩, ⟨by repeat (first | (with_reducible first | exact HB.out | apply below_alloc | apply pw_below_drewN | apply below_drew1) | exact HB.out)⟩⟩
          · rw [if_neg c4] at H
            exact absurd H (by simp)
        · rw [if_neg c3] at H
          have c3b0 : decide (0 ≤ x3_1) = false := decide_eq_false c3
          clear c3
          obtain rfl := Option.some.inj H
          go_wp2
          go_ret
          exact ⟨by first | rfl | (simp [errW_none, errW_some] <;> rfl) | (simp [*, errW_none, errW_some] <;> rfl), by repeat (first | (with_reducible first | exact HB.out | apply below_alloc | apply pw_below_drewN | apply below_drew1) | exact HB.out)⟩
      · rw [if_neg c2] at H
        have c2b0 : decide (x4_1 < (l0.length : Int)) = false := decide_eq_false c2
        clear c2
        obtain rfl := Option.some.inj H
        go_wp2
        go_ret
        exact ⟨by first | rfl | (simp [errW_none, errW_some] <;> rfl) | (simp [*, errW_none, errW_some] <;> rfl), by repeat (first | (with_reducible first | exact HB.out | apply below_alloc | apply pw_below_drewN | apply below_drew1) | exact HB.out)⟩

/-! ### laws_zzFits2: function 9 -/
def laws_zzFits2.f (a0_0 : Int) (a0_1 : Int) (l0_2 : List Nat) (l0_3 : List (S25)) : Option (Bool) := if (l0_2.length : Int) > 2147483647 then (some false) else (if (l0_3.length : Int) > 2147483647 then (some false) else (some true))
set_option maxHeartbeats 8000000 in
set_option maxRecDepth 100000 in
theorem laws_zzFits2.calls (a0_0 : Int) (a0_1 : Int) (A0_2 : Option Addr) (c0_2 : Nat) (l0_2 : List Nat) (A0_3 : Option Addr) (c0_3 : Nat) (l0_3 : List (S25)) (r : Bool) (w : World) (hr0_2 : Kd.C Kd.float w A0_2 l0_2.length l0_2) (hc0_2 : l0_2.length ≤ c0_2) (hr0_3 : Kd.C k25 w A0_3 l0_3.length l0_3) (hc0_3 : l0_3.length ≤ c0_3) (h : laws_zzFits2.f a0_0 a0_1 l0_2 l0_3 = some r) :
    Calls Tryz.prog 9 #[.agg #[.int .i64 a0_0, .int .i64 a0_1, .slice A0_2 l0_2.length c0_2, .slice A0_3 l0_3.length c0_3]] w fun e w' => e = .returned (.bool r) ∧ Below w.heap.size w w' := by
  have hu25 := Tryz.underlying25
  have HR0_2 := Aside0.mk hr0_2
  have HC0_2 := Aside0.mk hc0_2
  clear hr0_2 hc0_2
  have HR0_3 := Aside0.mk hr0_3
  have HC0_3 := Aside0.mk hc0_3
  clear hr0_3 hc0_3
  have HB := Aside0.mk (Below.refl w.heap.size w)
  have H : (if (l0_2.length : Int) > 2147483647 then (some false) else (if (l0_3.length : Int) > 2147483647 then (some false) else (some true))) = some r := h
  clear h
  by_cases c2 : (l0_2.length : Int) > 2147483647
  · rw [if_pos c2] at H
    have c2b0 : decide (2147483647 < (l0_2.length : Int)) = true := decide_eq_true c2
    have c2b1 : decide (2147483647 < l0_2.length) = true := decide_eq_true (by omega)
    clear c2
    obtain rfl := Option.some.inj H
    go_enter Tryz.func9, Tryz.ntmps9
    go_wp2_with (first | ((with_reducible refine gate_dst (N := 1) rfl ?_); refine box_event ?hg (N := 1) ?hd (cs := #[.int .i64 a0_0, .int .i64 a0_1, .slice A0_2 l0_2.length c0_2, .slice A0_3 l0_3.length c0_3]) (t := 25) ?hr ?_; (case hd => rfl); (case hg => rfl); (case hr => first | (go_simp; done) | (go_simp; rfl)); intro gb106 hg w3 hbox hb; have n0_ := Aside0.mk (below_step (by repeat (first | (with_reducible first | exact HB.out | apply below_alloc | apply pw_below_drewN | apply below_drew1) | exact HB.out)) hb); have n1_ := Aside0.mk (hbox); have n2_ := Aside0.mk ((by rw [hg]; exact (below_size (by repeat (first | (with_reducible first | exact HB.out | apply below_alloc | apply pw_below_drewN | apply below_drew1) | exact HB.out))) : w.heap.size ≤ gb106)); have n3_ := Aside0.mk ((by rw [hg]; exact (below_size (by repeat (first | (with_reducible first | exact HB.out | apply below_alloc | apply pw_below_drewN | apply below_drew1) | exact HB.out))) : w.heap.size ≤ gb106)); clear HB; have HB := n0_; have BK106 := n1_; have GW106 := n2_; have GE106 := n3_; clear n0_ n1_ n2_ n3_; clear hb hbox hg; have hcz4_0 : w3.cell? ⟨gb106, 0, none⟩ = some (.int .i64 a0_0) := (blk_cell BK106.out 0).trans rfl; have hcz4_1 : w3.cell? ⟨gb106, 1, none⟩ = some (.int .i64 a0_1) := (blk_cell BK106.out 1).trans rfl; have hcz4_2 : w3.cell? ⟨gb106, 2, none⟩ = some (.slice A0_2 l0_2.length c0_2) := (blk_cell BK106.out 2).trans rfl; have hcz4_3 : w3.cell? ⟨gb106, 3, none⟩ = some (.slice A0_3 l0_3.length c0_3) := (blk_cell BK106.out 3).trans rfl; have hfz4_0 := blk_frozen BK106.out 0; have hfz4_1 := blk_frozen BK106.out 1; have hfz4_2 := blk_frozen BK106.out 2; have hfz4_3 := blk_frozen BK106.out 3))
    go_ret
    exact ⟨by first | rfl | (simp [errW_none, errW_some] <;> rfl) | (simp [*, errW_none, errW_some] <;> rfl), by repeat (first | (with_reducible first | exact HB.out | apply below_alloc | apply pw_below_drewN | apply below_drew1 | refine below_set ?_ GE106.out) | exact HB.out)⟩
  · rw [if_neg c2] at H
    have c2b0 : decide (2147483647 < (l0_2.length : Int)) = false := decide_eq_false c2
    have c2b1 : decide (2147483647 < l0_2.length) = false := decide_eq_false (by omega)
    clear c2
    by_cases c5 : (l0_3.length : Int) > 2147483647
    · rw [if_pos c5] at H
      have c5b0 : decide (2147483647 < (l0_3.length : Int)) = true := decide_eq_true c5
      have c5b1 : decide (2147483647 < l0_3.length) = true := decide_eq_true (by omega)
      clear c5
      obtain rfl := Option.some.inj H
      go_enter Tryz.func9, Tryz.ntmps9
      go_wp2_with (first | ((with_reducible refine gate_dst (N := 1) rfl ?_); refine box_event ?hg (N := 1) ?hd (cs := #[.int .i64 a0_0, .int .i64 a0_1, .slice A0_2 l0_2.length c0_2, .slice A0_3 l0_3.length c0_3]) (t := 25) ?hr ?_; (case hd => rfl); (case hg => rfl); (case hr => first | (go_simp; done) | (go_simp; rfl)); intro gb106 hg w6 hbox hb; have n0_ := Aside0.mk (below_step (by repeat (first | (with_reducible first | exact HB.out | apply below_alloc | apply pw_below_drewN | apply below_drew1) | exact HB.out)) hb); have n1_ := Aside0.mk (hbox); have n2_ := Aside0.mk ((by rw [hg]; exact (below_size (by repeat (first | (with_reducible first | exact HB.out | apply below_alloc | apply pw_below_drewN | apply below_drew1) | exact HB.out))) : w.heap.size ≤ gb106)); have n3_ := Aside0.mk ((by rw [hg]; exact (below_size (by repeat (first | (with_reducible first | exact HB.out | apply below_alloc | apply pw_below_drewN | apply below_drew1) | exact HB.out))) : w.heap.size ≤ gb106)); clear HB; have HB := n0_; have BK106 := n1_; have GW106 := n2_; have GE106 := n3_; clear n0_ n1_ n2_ n3_; clear hb hbox hg; have hcz7_0 : w6.cell? ⟨gb106, 0, none⟩ = some (.int .i64 a0_0) := (blk_cell BK106.out 0).trans rfl; have hcz7_1 : w6.cell? ⟨gb106, 1, none⟩ = some (.int .i64 a0_1) := (blk_cell BK106.out 1).trans rfl; have hcz7_2 : w6.cell? ⟨gb106, 2, none⟩ = some (.slice A0_2 l0_2.length c0_2) := (blk_cell BK106.out 2).trans rfl; have hcz7_3 : w6.cell? ⟨gb106, 3, none⟩ = some (.slice A0_3 l0_3.length c0_3) := (blk_cell BK106.out 3).trans rfl; have hfz7_0 := blk_frozen BK106.out 0; have hfz7_1 := blk_frozen BK106.out 1; have hfz7_2 := blk_frozen BK106.out 2; have hfz7_3 := blk_frozen BK106.out 3))
      go_ret
      exact ⟨by first | rfl | (simp [errW_none, errW_some] <;> rfl) | (simp [*, errW_none, errW_some] <;> rfl), by repeat (first | (with_reducible first | exact HB.out | apply below_alloc | apply pw_below_drewN | apply below_drew1 | refine below_set ?_ GE106.out) | exact HB.out)⟩
    · rw [if_neg c5] at H
      have c5b0 : decide (2147483647 < (l0_3.length : Int)) = false := decide_eq_false c5
      have c5b1 : decide (2147483647 < l0_3.length) = false := decide_eq_false (by omega)
      clear c5
      obtain rfl := Option.some.inj H
      go_enter Tryz.func9, Tryz.ntmps9
      go_wp2_with (first | ((with_reducible refine gate_dst (N := 1) rfl ?_); refine box_event ?hg (N := 1) ?hd (cs := #[.int .i64 a0_0, .int .i64 a0_1, .slice A0_2 l0_2.length c0_2, .slice A0_3 l0_3.length c0_3]) (t := 25) ?hr ?_; (case hd => rfl); (case hg => rfl); (case hr => first | (go_simp; done) | (go_simp; rfl)); intro gb106 hg w8 hbox hb; have n0_ := Aside0.mk (below_step (by repeat (first | (with_reducible first | exact HB.out | apply below_alloc | apply pw_below_drewN | apply below_drew1) | exact HB.out)) hb); have n1_ := Aside0.mk (hbox); have n2_ := Aside0.mk ((by rw [hg]; exact (below_size (by repeat (first | (with_reducible first | exact HB.out | apply below_alloc | apply pw_below_drewN | apply below_drew1) | exact HB.out))) : w.heap.size ≤ gb106)); have n3_ := Aside0.mk ((by rw [hg]; exact (below_size (by repeat (first | (with_reducible first | exact HB.out | apply below_alloc | apply pw_below_drewN | apply below_drew1) | exact HB.out))) : w.heap.size ≤ gb106)); clear HB; have HB := n0_; have BK106 := n1_; have GW106 := n2_; have GE106 := n3_; clear n0_ n1_ n2_ n3_; clear hb hbox hg; have hcz9_0 : w8.cell? ⟨gb106, 0, none⟩ = some (.int .i64 a0_0) := (blk_cell BK106.out 0).trans rfl; have hcz9_1 : w8.cell? ⟨gb106, 1, none⟩ = some (.int .i64 a0_1) := (blk_cell BK106.out 1).trans rfl; have hcz9_2 : w8.cell? ⟨gb106, 2, none⟩ = some (.slice A0_2 l0_2.length c0_2) := (blk_cell BK106.out 2).trans rfl; have hcz9_3 : w8.cell? ⟨gb106, 3, none⟩ = some (.slice A0_3 l0_3.length c0_3) := (blk_cell BK106.out 3).trans rfl; have hfz9_0 := blk_frozen BK106.out 0; have hfz9_1 := blk_frozen BK106.out 1; have hfz9_2 := blk_frozen BK106.out 2; have hfz9_3 := blk_frozen BK106.out 3))
      go_ret
      exact ⟨by first | rfl | (simp [errW_none, errW_some] <;> rfl) | (simp [*, errW_none, errW_some] <;> rfl), by repeat (first | (with_reducible first | exact HB.out | apply below_alloc | apply pw_below_drewN | apply below_drew1 | refine below_set ?_ GE106.out) | exact HB.out)⟩

/-! ### impl_dimOf: function 54 -/
def impl_dimOf.f (a0 : Int) : Option (Int) := some ((Go.bits .and .i64 a0 3) % 256)
set_option maxHeartbeats 8000000 in
set_option maxRecDepth 100000 in
theorem impl_dimOf.calls (a0 : Int) (r : Int) (w : World) (h : impl_dimOf.f a0 = some r) :
    Calls Tryz.prog 54 #[.int .i64 a0] w fun e w' => e = .returned (.int .u8 r) ∧ Drawn0 w w' := by
  have H : (some ((Go.bits .and .i64 a0 3) % 256)) = some r := h
  clear h
  obtain rfl := Option.some.inj H
  go_enter Tryz.func54, Tryz.ntmps54
  go_wp2
  go_ret
  exact ⟨by first | rfl | (simp; done) | (simp [*]; done), by repeat (first | exact Drawn0.refl _ | apply Drawn0.step)⟩

/-! ### geom_CoordinatesType_Dimension: function 106 -/
def geom_CoordinatesType_Dimension.f (a0 : Int) : Option (Int) := (arrAt ([2, 3, 3, 4] : List Int) a0).bind fun q107 => (some q107)
set_option maxHeartbeats 8000000 in
set_option maxRecDepth 100000 in
theorem geom_CoordinatesType_Dimension.calls (a0 : Int) (r : Int) (w : World) (h : geom_CoordinatesType_Dimension.f a0 = some r) :
    Calls Tryz.prog 106 #[.int .u8 a0] w fun e w' => e = .returned (.int .i64 r) ∧ Drawn0 w w' := by
  have H : ((arrAt ([2, 3, 3, 4] : List Int) a0).bind fun q107 => (some q107)) = some r := h
  clear h
  replace H := Option.bind_eq_some_iff.mp H
  obtain ⟨q107, A_q107, H⟩ := H
  replace H : (some q107) = some r := H
  have hq_q107 := fun w_ : World => run_index_arr (P := Tryz.prog) w_ Tryz.underlying148 (by kernel_rfl) (by kernel_rfl) rfl (Value.int .i64) .u8 A_q107
  (try simp only [List.map_cons, List.map_nil] at hq_q107)
  clear A_q107
  obtain rfl := Option.some.inj H
  go_enter Tryz.func106, Tryz.ntmps106
  go_wp2
  go_ret
  exact ⟨by first | rfl | (simp; done) | (simp [*]; done), by repeat (first | exact Drawn0.refl _ | apply Drawn0.step)⟩

/-! ### geom_NewSequence: function 107 -/
def geom_NewSequence.f (l0 : List Nat) (a1 : Int) : Option (Int × List Nat) := (geom_CoordinatesType_Dimension.f a1).bind fun t109 => (if t109 = 0 then (none) else (if ((l0.length : Int) % t109) = 0 then (some (a1, l0)) else (none)))
set_option maxHeartbeats 8000000 in
set_option maxRecDepth 100000 in
theorem geom_NewSequence.calls (P0_ : Nat → Prop) (A0 : Option Addr) (c0 : Nat) (l0 : List Nat) (a1 : Int) (r1 : Int) (r2 : List Nat) (w : World) (hs0 : Kd.V Kd.float 45 w w.heap.size (fun k_ => P0_ k_) (.slice A0 l0.length c0) l0) (h : geom_NewSequence.f l0 a1 = some (r1, r2)) :
    Calls Tryz.prog 107 #[.slice A0 l0.length c0, .int .u8 a1] w fun e w' => ∃ v1_ : Value, e = .returned (.agg #[.int .u8 r1, v1_]) ∧ Kd.V Kd.float 45 w' w.heap.size (fun k_ => (P0_ k_ ∨ w.heap.size ≤ k_)) v1_ r2 ∧ Below w.heap.size w w' := by
  have hu78 := Tryz.underlying78
  have HO0 := Aside0.mk (show Kd.V Kd.float 45 w w.heap.size (fun k_ => (P0_ k_ ∨ w.heap.size ≤ k_)) (.slice A0 l0.length c0) l0 from Kd.V_mono hs0 (fun k_ hk => .inl hk))
  have HB := Aside0.mk (Below.refl w.heap.size w)
  have H : ((geom_CoordinatesType_Dimension.f a1).bind fun t109 => (if t109 = 0 then (none) else (if ((l0.length : Int) % t109) = 0 then (some (a1, l0)) else (none)))) = some (r1, r2) := h
  clear h
  replace H := Option.bind_eq_some_iff.mp H
  obtain ⟨t109, A30, H⟩ := H
  replace H : (if t109 = 0 then (none) else (if ((l0.length : Int) % t109) = 0 then (some (a1, l0)) else (none))) = some (r1, r2) := H
  have A3 := Aside0.mk A30
  clear A30
  by_cases c4 : t109 = 0
  · rw [if_pos c4] at H
    exact absurd H (by simp)
  · rw [if_neg c4] at H
    have c4b0 : (t109 == 0) = false := beq_eq_false_iff_ne.mpr c4
    have c4b1 : (t109 != 0) = true := bne_iff_ne.mpr c4
    by_cases c5 : ((l0.length : Int) % t109) = 0
    · rw [if_pos c5] at H
      have c5b0 : (((l0.length : Int) % t109) == 0) = true := beq_iff_eq.mpr c5
      have c5b1 : (((l0.length : Int) % t109) != 0) = false := bne_eq_false_iff_eq.mpr c5
      clear c5
      simp only [Option.some.injEq, Prod.mk.injEq] at H
      obtain ⟨rfl, rfl⟩ := H
      go_enter Tryz.func107, Tryz.ntmps107
      go_wp2_with (first | ((with_reducible refine gate_dst (N := 4) rfl ?_); refine box_event ?hg (N := 4) ?hd (cs := #[.int .u8 0, .slice none 0 0]) (t := 78) ?hr ?_; (case hd => rfl); (case hg => rfl); (case hr => first | (go_simp; done) | (go_simp; rfl)); intro gb108 hg w6 hbox hb; have n0_ := Aside0.mk (Kd.V_below (Kd.V_elderB (by (with_reducible repeat (first | apply Kd.V_alloc | apply Kd.V_drewN | apply Kd.V_drew)); exact HO0.out) gb108 (Nat.le_of_eq hg.symm)) hb); have n1_ := Aside0.mk (below_step (by repeat (first | (with_reducible first | exact HB.out | apply below_alloc | apply pw_below_drewN | apply below_drew1) | exact HB.out)) hb); have n2_ := Aside0.mk (hbox); have n3_ := Aside0.mk ((by rw [hg]; exact (below_size (by repeat (first | (with_reducible first | exact HB.out | apply below_alloc | apply pw_below_drewN | apply below_drew1) | exact HB.out))) : w.heap.size ≤ gb108)); have n4_ := Aside0.mk ((by rw [hg]; exact (below_size (by repeat (first | (with_reducible first | exact HB.out | apply below_alloc | apply pw_below_drewN | apply below_drew1) | exact HB.out))) : w.heap.size ≤ gb108)); clear HO0; clear HB; have HO0 := n0_; have HB := n1_; have BK108 := n2_; have GW108 := n3_; have GE108 := n4_; clear n0_ n1_ n2_ n3_ n4_; clear hb hbox hg) | ((with_reducible refine gate_callee (f := 106) rfl ?_); refine goesL_ (some 8) rfl rfl Tryz.func106 (by kernel_rfl) rfl #[.int .u8 a1] rfl (by (try simp only [List.map_toArray, List.map_cons, List.map_nil]); first | done | rfl | (simp only [List.length_drop, List.length_take]; rfl)) ?_; (with_reducible refine (geom_CoordinatesType_Dimension.calls a1 t109 _ A3.out).mono ?_); rintro e w' ⟨rfl, ⟨nd, rfl⟩⟩; refine ⟨_, rfl, ?_⟩; (try (rw [drewN_self w6]; generalize hq_ : World.drewN w6 _ = w6; have n0_ : Aside0 (Kd.V Kd.float 45 w6 w.heap.size (fun k_ => (P0_ k_ ∨ w.heap.size ≤ k_) ∧ k_ ≠ gb108) (.slice A0 l0.length c0) l0) := ⟨by rw [← hq_]; exact (by (with_reducible repeat (first | apply Kd.V_alloc | apply Kd.V_drewN | apply Kd.V_drew)); exact HO0.out)⟩; have n1_ : Aside0 (w6.heap[gb108]? = some (.cells #[.int .u8 0, .slice none 0 0] 78 (0, 0))) := ⟨by rw [← hq_]; exact (by (with_reducible repeat (first | refine blk_drewN ?_ _ | refine blk_drew ?_ | refine blk_alloc ?_ _)); exact BK108.out)⟩; have n2_ : Aside0 (Below w.heap.size w w6) := ⟨by rw [← hq_]; exact (by repeat (first | (with_reducible first | exact HB.out | apply below_alloc | apply pw_below_drewN | apply below_drew1 | refine below_set ?_ GE108.out) | exact HB.out))⟩; clear HO0 BK108 HB hq_; have HO0 := n0_; have BK108 := n1_; have HB := n2_; clear n0_ n1_ n2_)); have hcz7_0 : w6.cell? ⟨gb108, 0, none⟩ = some (.int .u8 0) := (blk_cell BK108.out 0).trans rfl; have hcz7_1 : w6.cell? ⟨gb108, 1, none⟩ = some (.slice none 0 0) := (blk_cell BK108.out 1).trans rfl; have hfz7_0 := blk_frozen BK108.out 0; have hfz7_1 := blk_frozen BK108.out 1))
      refine bodyPost_ret (results_cell_row rfl _ _ gb108 78 #[.int .u8 a1, .slice A0 l0.length c0] (0, 0) _ rfl (by (with_reducible repeat (first | refine blk_drewN ?_ _ | refine blk_drew ?_ | refine blk_alloc ?_ _)); refine blk_put (cs := #[.int .u8 a1, .slice none 0 0]) ?_ 1 _ rfl; (with_reducible repeat (first | refine blk_drewN ?_ _ | refine blk_drew ?_ | refine blk_alloc ?_ _)); refine blk_put (cs := #[.int .u8 0, .slice none 0 0]) ?_ 0 _ rfl; (with_reducible repeat (first | refine blk_drewN ?_ _ | refine blk_drew ?_ | refine blk_alloc ?_ _)); exact BK108.out) Tryz.underlying78 rfl (by kernel_rfl)) rfl ?_
      exact ⟨_, by first | rfl | (simp [errW_none, errW_some] <;> rfl) | (simp [*, errW_none, errW_some] <;> rfl), by (with_reducible repeat (first | apply Kd.V_alloc | apply Kd.V_drewN | apply Kd.V_drew)); exact Kd.V_mono (Kd.V_far (p := ⟨gb108, 1, none⟩) (Kd.V_far (p := ⟨gb108, 0, none⟩) (Kd.V_mono HO0.out (fun k_ hk => (⟨hk, hk.2⟩ : _ ∧ k_ ≠ gb108))) (fun _ hk => hk.2) (.int .u8 a1)) (fun _ hk => hk.2) (.slice A0 l0.length c0)) (fun _ hk => hk.1.1), by repeat (first | (with_reducible first | exact HB.out | apply below_alloc | apply pw_below_drewN | apply below_drew1 | refine below_set ?_ GE108.out) | exact HB.out)⟩
    · rw [if_neg c5] at H
      exact absurd H (by simp)

/-! ### geom_Sequence_Length: function 52 -/
def geom_Sequence_Length.f (a0_0 : Int) (l0_1 : List Nat) : Option (Int) := (geom_CoordinatesType_Dimension.f a0_0).bind fun t111 => (if t111 = 0 then (none) else (some (wrap64 ((l0_1.length : Int) / t111))))
set_option maxHeartbeats 8000000 in
set_option maxRecDepth 100000 in
theorem geom_Sequence_Length.calls (a0_0 : Int) (A0_1 : Option Addr) (c0_1 : Nat) (l0_1 : List Nat) (r : Int) (w : World) (hr0_1 : Kd.C Kd.float w A0_1 l0_1.length l0_1) (hc0_1 : l0_1.length ≤ c0_1) (h : geom_Sequence_Length.f a0_0 l0_1 = some r) :
    Calls Tryz.prog 52 #[.agg #[.int .u8 a0_0, .slice A0_1 l0_1.length c0_1]] w fun e w' => e = .returned (.int .i64 r) ∧ Below w.heap.size w w' := by
  have hu78 := Tryz.underlying78
  have HR0_1 := Aside0.mk hr0_1
  have HC0_1 := Aside0.mk hc0_1
  clear hr0_1 hc0_1
  have HB := Aside0.mk (Below.refl w.heap.size w)
  have H : ((geom_CoordinatesType_Dimension.f a0_0).bind fun t111 => (if t111 = 0 then (none) else (some (wrap64 ((l0_1.length : Int) / t111))))) = some r := h
  clear h
  replace H := Option.bind_eq_some_iff.mp H
  obtain ⟨t111, A20, H⟩ := H
  replace H : (if t111 = 0 then (none) else (some (wrap64 ((l0_1.length : Int) / t111)))) = some r := H
  have A2 := Aside0.mk A20
  clear A20
  by_cases c3 : t111 = 0
  · rw [if_pos c3] at H
    exact absurd H (by simp)
  · rw [if_neg c3] at H
    have c3b0 : (t111 == 0) = false := beq_eq_false_iff_ne.mpr c3
    have c3b1 : (t111 != 0) = true := bne_iff_ne.mpr c3
    obtain rfl := Option.some.inj H
    go_enter Tryz.func52, Tryz.ntmps52
    go_wp2_with (first | ((with_reducible refine gate_dst (N := 1) rfl ?_); refine box_event ?hg (N := 1) ?hd (cs := #[.int .u8 a0_0, .slice A0_1 l0_1.length c0_1]) (t := 78) ?hr ?_; (case hd => rfl); (case hg => rfl); (case hr => first | (go_simp; done) | (go_simp; rfl)); intro gb110 hg w4 hbox hb; have n0_ := Aside0.mk (below_step (by repeat (first | (with_reducible first | exact HB.out | apply below_alloc | apply pw_below_drewN | apply below_drew1) | exact HB.out)) hb); have n1_ := Aside0.mk (hbox); have n2_ := Aside0.mk ((by rw [hg]; exact (below_size (by repeat (first | (with_reducible first | exact HB.out | apply below_alloc | apply pw_below_drewN | apply below_drew1) | exact HB.out))) : w.heap.size ≤ gb110)); have n3_ := Aside0.mk ((by rw [hg]; exact (below_size (by repeat (first | (with_reducible first | exact HB.out | apply below_alloc | apply pw_below_drewN | apply below_drew1) | exact HB.out))) : w.heap.size ≤ gb110)); clear HB; have HB := n0_; have BK110 := n1_; have GW110 := n2_; have GE110 := n3_; clear n0_ n1_ n2_ n3_; clear hb hbox hg; have hcz5_0 : w4.cell? ⟨gb110, 0, none⟩ = some (.int .u8 a0_0) := (blk_cell BK110.out 0).trans rfl; have hcz5_1 : w4.cell? ⟨gb110, 1, none⟩ = some (.slice A0_1 l0_1.length c0_1) := (blk_cell BK110.out 1).trans rfl; have hfz5_0 := blk_frozen BK110.out 0; have hfz5_1 := blk_frozen BK110.out 1) | (go_at_call 106; (with_reducible refine (geom_CoordinatesType_Dimension.calls a0_0 t111 _ A2.out).mono ?_); rintro e w' ⟨rfl, ⟨nd, rfl⟩⟩; (try first | exact ⟨rfl, _, World.drewN_drewN _ _ _⟩ | exact ⟨rfl, _, Eq.trans (World.drewN_drewN _ _ _) (congrArg (World.drewN _) (Nat.add_assoc _ _ _))⟩)))
    repeat (go_quiet (first | ((with_reducible refine gate_dst (N := 1) rfl ?_); refine box_event ?hg (N := 1) ?hd (cs := #[.int .u8 a0_0, .slice A0_1 l0_1.length c0_1]) (t := 78) ?hr ?_; (case hd => rfl); (case hg => rfl); (case hr => first | (go_simp; done) | (go_simp; rfl)); intro gb110 hg w4 hbox hb; have n0_ := Aside0.mk (below_step (by repeat (first | (with_reducible first | exact HB.out | apply below_alloc | apply pw_below_drewN | apply below_drew1) | exact HB.out)) hb); have n1_ := Aside0.mk (hbox); have n2_ := Aside0.mk ((by rw [hg]; exact (below_size (by repeat (first | (with_reducible first | exact HB.out | apply below_alloc | apply pw_below_drewN | apply below_drew1) | exact HB.out))) : w.heap.size ≤ gb110)); have n3_ := Aside0.mk ((by rw [hg]; exact (below_size (by repeat (first | (with_reducible first | exact HB.out | apply below_alloc | apply pw_below_drewN | apply below_drew1) | exact HB.out))) : w.heap.size ≤ gb110)); clear HB; have HB := n0_; have BK110 := n1_; have GW110 := n2_; have GE110 := n3_; clear n0_ n1_ n2_ n3_; clear hb hbox hg; have hcz5_0 : w4.cell? ⟨gb110, 0, none⟩ = some (.int .u8 a0_0) := (blk_cell BK110.out 0).trans rfl; have hcz5_1 : w4.cell? ⟨gb110, 1, none⟩ = some (.slice A0_1 l0_1.length c0_1) := (blk_cell BK110.out 1).trans rfl; have hfz5_0 := blk_frozen BK110.out 0; have hfz5_1 := blk_frozen BK110.out 1) | (go_at_call 106; (with_reducible refine (geom_CoordinatesType_Dimension.calls a0_0 t111 _ A2.out).mono ?_); rintro e w' ⟨rfl, ⟨nd, rfl⟩⟩; (try first | exact ⟨rfl, _, World.drewN_drewN _ _ _⟩ | exact ⟨rfl, _, Eq.trans (World.drewN_drewN _ _ _) (congrArg (World.drewN _) (Nat.add_assoc _ _ _))⟩))); try go_wp2_with (first | ((with_reducible refine gate_dst (N := 1) rfl ?_); refine box_event ?hg (N := 1) ?hd (cs := #[.int .u8 a0_0, .slice A0_1 l0_1.length c0_1]) (t := 78) ?hr ?_; (case hd => rfl); (case hg => rfl); (case hr => first | (go_simp; done) | (go_simp; rfl)); intro gb110 hg w4 hbox hb; have n0_ := Aside0.mk (below_step (by repeat (first | (with_reducible first | exact HB.out | apply below_alloc | apply pw_below_drewN | apply below_drew1) | exact HB.out)) hb); have n1_ := Aside0.mk (hbox); have n2_ := Aside0.mk ((by rw [hg]; exact (below_size (by repeat (first | (with_reducible first | exact HB.out | apply below_alloc | apply pw_below_drewN | apply below_drew1) | exact HB.out))) : w.heap.size ≤ gb110)); have n3_ := Aside0.mk ((by rw [hg]; exact (below_size (by repeat (first | (with_reducible first | exact HB.out | apply below_alloc | apply pw_below_drewN | apply below_drew1) | exact HB.out))) : w.heap.size ≤ gb110)); clear HB; have HB := n0_; have BK110 := n1_; have GW110 := n2_; have GE110 := n3_; clear n0_ n1_ n2_ n3_; clear hb hbox hg; have hcz5_0 : w4.cell? ⟨gb110, 0, none⟩ = some (.int .u8 a0_0) := (blk_cell BK110.out 0).trans rfl; have hcz5_1 : w4.cell? ⟨gb110, 1, none⟩ = some (.slice A0_1 l0_1.length c0_1) := (blk_cell BK110.out 1).trans rfl; have hfz5_0 := blk_frozen BK110.out 0; have hfz5_1 := blk_frozen BK110.out 1) | (go_at_call 106; (with_reducible refine (geom_CoordinatesType_Dimension.calls a0_0 t111 _ A2.out).mono ?_); rintro e w' ⟨rfl, ⟨nd, rfl⟩⟩; (try first | exact ⟨rfl, _, World.drewN_drewN _ _ _⟩ | exact ⟨rfl, _, Eq.trans (World.drewN_drewN _ _ _) (congrArg (World.drewN _) (Nat.add_assoc _ _ _))⟩))))
    go_ret
    exact ⟨by first | rfl | (simp [errW_none, errW_some] <;> rfl) | (simp [*, errW_none, errW_some] <;> rfl), by repeat (first | (with_reducible first | exact HB.out | apply below_alloc | apply pw_below_drewN | apply below_drew1 | refine below_set ?_ GE110.out) | exact HB.out)⟩

/-! ### geom_NewEmptyPoint: function 53 -/
def geom_NewEmptyPoint.f (a0 : Int) : Option (Nat × Nat × Nat × Nat × Int × Bool) := some (0, 0, 0, 0, a0, false)
set_option maxHeartbeats 8000000 in
set_option maxRecDepth 100000 in
theorem geom_NewEmptyPoint.calls (a0 : Int) (r1 : Nat) (r2 : Nat) (r3 : Nat) (r4 : Nat) (r5 : Int) (r6 : Bool) (w : World) (h : geom_NewEmptyPoint.f a0 = some (r1, r2, r3, r4, r5, r6)) :
    Calls Tryz.prog 53 #[.int .u8 a0] w fun e w' => e = .returned (.agg #[.float .f64 r1, .float .f64 r2, .float .f64 r3, .float .f64 r4, .int .u8 r5, .bool r6]) ∧ Below w.heap.size w w' := by
  have hu52 := Tryz.underlying52
  have hu50 := Tryz.underlying50
  have HB := Aside0.mk (Below.refl w.heap.size w)
  have H : (some (0, 0, 0, 0, a0, false)) = some (r1, r2, r3, r4, r5, r6) := h
  clear h
  simp only [Option.some.injEq, Prod.mk.injEq] at H
  obtain ⟨rfl, rfl, rfl, rfl, rfl, rfl⟩ := H
  go_enter Tryz.func53, Tryz.ntmps53
  go_wp2_with (first | ((with_reducible refine gate_dst (N := 2) rfl ?_); refine box_event ?hg (N := 2) ?hd (cs := #[.float .f64 0, .float .f64 0, .float .f64 0, .float .f64 0, .int .u8 0, .bool false]) (t := 52) ?hr ?_; (case hd => rfl); (case hg => rfl); (case hr => first | (go_simp; done) | (go_simp; rfl)); intro gb112 hg w2 hbox hb; have n0_ := Aside0.mk (below_step (by repeat (first | (with_reducible first | exact HB.out | apply below_alloc | apply pw_below_drewN | apply below_drew1) | exact HB.out)) hb); have n1_ := Aside0.mk (hbox); have n2_ := Aside0.mk ((by rw [hg]; exact (below_size (by repeat (first | (with_reducible first | exact HB.out | apply below_alloc | apply pw_below_drewN | apply below_drew1) | exact HB.out))) : w.heap.size ≤ gb112)); have n3_ := Aside0.mk ((by rw [hg]; exact (below_size (by repeat (first | (with_reducible first | exact HB.out | apply below_alloc | apply pw_below_drewN | apply below_drew1) | exact HB.out))) : w.heap.size ≤ gb112)); clear HB; have HB := n0_; have BK112 := n1_; have GW112 := n2_; have GE112 := n3_; clear n0_ n1_ n2_ n3_; clear hb hbox hg; have hcz3_0 : w2.cell? ⟨gb112, 0, none⟩ = some (.float .f64 0) := (blk_cell BK112.out 0).trans rfl; have hcz3_1 : w2.cell? ⟨gb112, 1, none⟩ = some (.float .f64 0) := (blk_cell BK112.out 1).trans rfl; have hcz3_2 : w2.cell? ⟨gb112, 2, none⟩ = some (.float .f64 0) := (blk_cell BK112.out 2).trans rfl; have hcz3_3 : w2.cell? ⟨gb112, 3, none⟩ = some (.float .f64 0) := (blk_cell BK112.out 3).trans rfl; have hcz3_4 : w2.cell? ⟨gb112, 4, none⟩ = some (.int .u8 0) := (blk_cell BK112.out 4).trans rfl; have hcz3_5 : w2.cell? ⟨gb112, 5, none⟩ = some (.bool false) := (blk_cell BK112.out 5).trans rfl; have hfz3_0 := blk_frozen BK112.out 0; have hfz3_1 := blk_frozen BK112.out 1; have hfz3_2 := blk_frozen BK112.out 2; have hfz3_3 := blk_frozen BK112.out 3; have hfz3_4 := blk_frozen BK112.out 4; have hfz3_5 := blk_frozen BK112.out 5))
  refine bodyPost_ret (results_cell_row rfl _ _ gb112 52 #[.float .f64 0, .float .f64 0, .float .f64 0, .float .f64 0, .int .u8 a0, .bool false] (0, 0) _ rfl (by (with_reducible repeat (first | refine blk_drewN ?_ _ | refine blk_drew ?_ | refine blk_alloc ?_ _)); refine blk_put (cs := #[.float .f64 0, .float .f64 0, .float .f64 0, .float .f64 0, .int .u8 a0, .bool false]) ?_ 5 _ rfl; (with_reducible repeat (first | refine blk_drewN ?_ _ | refine blk_drew ?_ | refine blk_alloc ?_ _)); refine blk_put (cs := #[.float .f64 0, .float .f64 0, .float .f64 0, .float .f64 0, .int .u8 0, .bool false]) ?_ 4 _ rfl; (with_reducible repeat (first | refine blk_drewN ?_ _ | refine blk_drew ?_ | refine blk_alloc ?_ _)); refine blk_put (cs := #[.float .f64 0, .float .f64 0, .float .f64 0, .float .f64 0, .int .u8 0, .bool false]) ?_ 3 _ rfl; (with_reducible repeat (first | refine blk_drewN ?_ _ | refine blk_drew ?_ | refine blk_alloc ?_ _)); refine blk_put (cs := #[.float .f64 0, .float .f64 0, .float .f64 0, .float .f64 0, .int .u8 0, .bool false]) ?_ 2 _ rfl; (with_reducible repeat (first | refine blk_drewN ?_ _ | refine blk_drew ?_ | refine blk_alloc ?_ _)); refine blk_put (cs := #[.float .f64 0, .float .f64 0, .float .f64 0, .float .f64 0, .int .u8 0, .bool false]) ?_ 1 _ rfl; (with_reducible repeat (first | refine blk_drewN ?_ _ | refine blk_drew ?_ | refine blk_alloc ?_ _)); refine blk_put (cs := #[.float .f64 0, .float .f64 0, .float .f64 0, .float .f64 0, .int .u8 0, .bool false]) ?_ 0 _ rfl; (with_reducible repeat (first | refine blk_drewN ?_ _ | refine blk_drew ?_ | refine blk_alloc ?_ _)); exact BK112.out) Tryz.underlying52 rfl (by kernel_rfl)) rfl ?_
  exact ⟨by first | rfl | (simp [errW_none, errW_some] <;> rfl) | (simp [*, errW_none, errW_some] <;> rfl), by repeat (first | (with_reducible first | exact HB.out | apply below_alloc | apply pw_below_drewN | apply below_drew1 | refine below_set ?_ GE112.out) | exact HB.out)⟩

/-! ### geom_NewPoint: function 55 -/
def geom_NewPoint.f (a0_0 : Nat) (a0_1 : Nat) (a0_2 : Nat) (a0_3 : Nat) (a0_4 : Int) : Option (Nat × Nat × Nat × Nat × Int × Bool) := some (a0_0, a0_1, a0_2, a0_3, a0_4, true)
set_option maxHeartbeats 8000000 in
set_option maxRecDepth 100000 in
theorem geom_NewPoint.calls (a0_0 : Nat) (a0_1 : Nat) (a0_2 : Nat) (a0_3 : Nat) (a0_4 : Int) (r1 : Nat) (r2 : Nat) (r3 : Nat) (r4 : Nat) (r5 : Int) (r6 : Bool) (w : World) (h : geom_NewPoint.f a0_0 a0_1 a0_2 a0_3 a0_4 = some (r1, r2, r3, r4, r5, r6)) :
    Calls Tryz.prog 55 #[.agg #[.float .f64 a0_0, .float .f64 a0_1, .float .f64 a0_2, .float .f64 a0_3, .int .u8 a0_4]] w fun e w' => e = .returned (.agg #[.float .f64 r1, .float .f64 r2, .float .f64 r3, .float .f64 r4, .int .u8 r5, .bool r6]) ∧ Below w.heap.size w w' := by
  have hu50 := Tryz.underlying50
  have hu52 := Tryz.underlying52
  have HB := Aside0.mk (Below.refl w.heap.size w)
  have H : (some (a0_0, a0_1, a0_2, a0_3, a0_4, true)) = some (r1, r2, r3, r4, r5, r6) := h
  clear h
  simp only [Option.some.injEq, Prod.mk.injEq] at H
  obtain ⟨rfl, rfl, rfl, rfl, rfl, rfl⟩ := H
  go_enter Tryz.func55, Tryz.ntmps55
  go_wp2_with (first | ((with_reducible refine gate_dst (N := 1) rfl ?_); refine box_event ?hg (N := 1) ?hd (cs := #[.float .f64 a0_0, .float .f64 a0_1, .float .f64 a0_2, .float .f64 a0_3, .int .u8 a0_4]) (t := 50) ?hr ?_; (case hd => rfl); (case hg => rfl); (case hr => first | (go_simp; done) | (go_simp; rfl)); intro gb113 hg w2 hbox hb; have n0_ := Aside0.mk (below_step (by repeat (first | (with_reducible first | exact HB.out | apply below_alloc | apply pw_below_drewN | apply below_drew1) | exact HB.out)) hb); have n1_ := Aside0.mk (hbox); have n2_ := Aside0.mk ((by rw [hg]; exact (below_size (by repeat (first | (with_reducible first | exact HB.out | apply below_alloc | apply pw_below_drewN | apply below_drew1) | exact HB.out))) : w.heap.size ≤ gb113)); have n3_ := Aside0.mk ((by rw [hg]; exact (below_size (by repeat (first | (with_reducible first | exact HB.out | apply below_alloc | apply pw_below_drewN | apply below_drew1) | exact HB.out))) : w.heap.size ≤ gb113)); clear HB; have HB := n0_; have BK113 := n1_; have GW113 := n2_; have GE113 := n3_; clear n0_ n1_ n2_ n3_; clear hb hbox hg) | ((with_reducible refine gate_dst (N := 2) rfl ?_); refine box_event ?hg (N := 2) ?hd (cs := #[.float .f64 0, .float .f64 0, .float .f64 0, .float .f64 0, .int .u8 0, .bool false]) (t := 52) ?hr ?_; (case hd => rfl); (case hg => rfl); (case hr => first | (go_simp; done) | (go_simp; rfl)); intro gb114 hg w3 hbox hb; have n0_ := Aside0.mk (blk_below (g := gb113) (o := .cells #[.float .f64 a0_0, .float .f64 a0_1, .float .f64 a0_2, .float .f64 a0_3, .int .u8 a0_4] 50 (0, 0)) (by (with_reducible repeat (first | refine blk_drewN ?_ _ | refine blk_drew ?_ | refine blk_alloc ?_ _)); exact BK113.out) hb); have n1_ := Aside0.mk (below_step (by repeat (first | (with_reducible first | exact HB.out | apply below_alloc | apply pw_below_drewN | apply below_drew1 | refine below_set ?_ GE113.out) | exact HB.out)) hb); have n2_ := Aside0.mk (hbox); have n3_ := Aside0.mk ((by rw [hg]; exact (below_size (by repeat (first | (with_reducible first | exact HB.out | apply below_alloc | apply pw_below_drewN | apply below_drew1 | refine below_set ?_ GE113.out) | exact HB.out))) : w.heap.size ≤ gb114)); have n4_ := Aside0.mk ((by rw [hg]; exact (below_size (by repeat (first | (with_reducible first | exact HB.out | apply below_alloc | apply pw_below_drewN | apply below_drew1 | refine below_set ?_ GE113.out) | exact HB.out))) : w.heap.size ≤ gb114)); have n5_ := Aside0.mk ((by rw [hg]; exact Nat.ne_of_lt (blk_lt (g := gb113) (o := .cells #[.float .f64 a0_0, .float .f64 a0_1, .float .f64 a0_2, .float .f64 a0_3, .int .u8 a0_4] 50 (0, 0)) (by (with_reducible repeat (first | refine blk_drewN ?_ _ | refine blk_drew ?_ | refine blk_alloc ?_ _)); exact BK113.out)) : gb113 ≠ gb114)); have n6_ := Aside0.mk ((by rw [hg]; exact Nat.ne_of_gt (blk_lt (g := gb113) (o := .cells #[.float .f64 a0_0, .float .f64 a0_1, .float .f64 a0_2, .float .f64 a0_3, .int .u8 a0_4] 50 (0, 0)) (by (with_reducible repeat (first | refine blk_drewN ?_ _ | refine blk_drew ?_ | refine blk_alloc ?_ _)); exact BK113.out)) : gb114 ≠ gb113)); clear BK113; clear HB; have BK113 := n0_; have HB := n1_; have BK114 := n2_; have GW114 := n3_; have GE114 := n4_; have NB113_114 := n5_; have NB114_113 := n6_; clear n0_ n1_ n2_ n3_ n4_ n5_ n6_; clear hb hbox hg; have hnb4 := NB113_114.out; have hnc4 := NB114_113.out; have hcz5_0 : w3.cell? ⟨gb113, 0, none⟩ = some (.float .f64 a0_0) := (blk_cell BK113.out 0).trans rfl; have hcz5_1 : w3.cell? ⟨gb113, 1, none⟩ = some (.float .f64 a0_1) := (blk_cell BK113.out 1).trans rfl; have hcz5_2 : w3.cell? ⟨gb113, 2, none⟩ = some (.float .f64 a0_2) := (blk_cell BK113.out 2).trans rfl; have hcz5_3 : w3.cell? ⟨gb113, 3, none⟩ = some (.float .f64 a0_3) := (blk_cell BK113.out 3).trans rfl; have hcz5_4 : w3.cell? ⟨gb113, 4, none⟩ = some (.int .u8 a0_4) := (blk_cell BK113.out 4).trans rfl; have hfz5_0 := blk_frozen BK113.out 0; have hfz5_1 := blk_frozen BK113.out 1; have hfz5_2 := blk_frozen BK113.out 2; have hfz5_3 := blk_frozen BK113.out 3; have hfz5_4 := blk_frozen BK113.out 4; have hcz6_0 : w3.cell? ⟨gb114, 0, none⟩ = some (.float .f64 0) := (blk_cell BK114.out 0).trans rfl; have hcz6_1 : w3.cell? ⟨gb114, 1, none⟩ = some (.float .f64 0) := (blk_cell BK114.out 1).trans rfl; have hcz6_2 : w3.cell? ⟨gb114, 2, none⟩ = some (.float .f64 0) := (blk_cell BK114.out 2).trans rfl; have hcz6_3 : w3.cell? ⟨gb114, 3, none⟩ = some (.float .f64 0) := (blk_cell BK114.out 3).trans rfl; have hcz6_4 : w3.cell? ⟨gb114, 4, none⟩ = some (.int .u8 0) := (blk_cell BK114.out 4).trans rfl; have hcz6_5 : w3.cell? ⟨gb114, 5, none⟩ = some (.bool false) := (blk_cell BK114.out 5).trans rfl; have hfz6_0 := blk_frozen BK114.out 0; have hfz6_1 := blk_frozen BK114.out 1; have hfz6_2 := blk_frozen BK114.out 2; have hfz6_3 := blk_frozen BK114.out 3; have hfz6_4 := blk_frozen BK114.out 4; have hfz6_5 := blk_frozen BK114.out 5))
  refine bodyPost_ret (results_cell_row rfl _ _ gb114 52 #[.float .f64 a0_0, .float .f64 a0_1, .float .f64 a0_2, .float .f64 a0_3, .int .u8 a0_4, .bool true] (0, 0) _ rfl (by (with_reducible repeat (first | refine blk_drewN ?_ _ | refine blk_drew ?_ | refine blk_alloc ?_ _)); refine blk_put (cs := #[.float .f64 a0_0, .float .f64 a0_1, .float .f64 a0_2, .float .f64 a0_3, .int .u8 a0_4, .bool false]) ?_ 5 _ rfl; (with_reducible repeat (first | refine blk_drewN ?_ _ | refine blk_drew ?_ | refine blk_alloc ?_ _)); refine blk_put (cs := #[.float .f64 a0_0, .float .f64 a0_1, .float .f64 a0_2, .float .f64 a0_3, .int .u8 0, .bool false]) ?_ 4 _ rfl; (with_reducible repeat (first | refine blk_drewN ?_ _ | refine blk_drew ?_ | refine blk_alloc ?_ _)); refine blk_put (cs := #[.float .f64 a0_0, .float .f64 a0_1, .float .f64 a0_2, .float .f64 0, .int .u8 0, .bool false]) ?_ 3 _ rfl; (with_reducible repeat (first | refine blk_drewN ?_ _ | refine blk_drew ?_ | refine blk_alloc ?_ _)); refine blk_put (cs := #[.float .f64 a0_0, .float .f64 a0_1, .float .f64 0, .float .f64 0, .int .u8 0, .bool false]) ?_ 2 _ rfl; (with_reducible repeat (first | refine blk_drewN ?_ _ | refine blk_drew ?_ | refine blk_alloc ?_ _)); refine blk_put (cs := #[.float .f64 a0_0, .float .f64 0, .float .f64 0, .float .f64 0, .int .u8 0, .bool false]) ?_ 1 _ rfl; (with_reducible repeat (first | refine blk_drewN ?_ _ | refine blk_drew ?_ | refine blk_alloc ?_ _)); refine blk_put (cs := #[.float .f64 0, .float .f64 0, .float .f64 0, .float .f64 0, .int .u8 0, .bool false]) ?_ 0 _ rfl; (with_reducible repeat (first | refine blk_drewN ?_ _ | refine blk_drew ?_ | refine blk_alloc ?_ _)); exact BK114.out) Tryz.underlying52 rfl (by kernel_rfl)) rfl ?_
  exact ⟨by first | rfl | (simp [errW_none, errW_some] <;> rfl) | (simp [*, errW_none, errW_some] <;> rfl), by repeat (first | (with_reducible first | exact HB.out | apply below_alloc | apply pw_below_drewN | apply below_drew1 | refine below_set ?_ GE113.out | refine below_set ?_ GE114.out) | exact HB.out)⟩

/-! ### impl_point: function 28 -/
def impl_point.j0 : Nat → Bool → Int → Int → List Nat → List (S25) → Int → List Nat → Option (Nat × Nat × Nat × Nat × Int × Bool)
  | 0, _, _, _, _, _, _, _ => none
  | k + 1, x16, x116000, x116001, x116002, x116003, x122000, x122001 => if x16 = true then ((impl_dimOf.f x116001).bind fun t123 => ((geom_NewEmptyPoint.f t123).bind fun bt124 => (some (bt124.1, bt124.2.1, bt124.2.2.1, bt124.2.2.2.1, bt124.2.2.2.2.1, bt124.2.2.2.2.2)))) else ((geom_Sequence_Get.f x122000 x122001 0).bind fun bt130 => ((geom_NewPoint.f bt130.1 bt130.2.1 bt130.2.2.1 bt130.2.2.2.1 bt130.2.2.2.2).bind fun bt135 => (some (bt135.1, bt135.2.1, bt135.2.2.1, bt135.2.2.2.1, bt135.2.2.2.2.1, bt135.2.2.2.2.2))))
def impl_point.f (k : Nat) (a0_0 : Int) (a0_1 : Int) (l0_2 : List Nat) (l0_3 : List (S25)) : Option (Nat × Nat × Nat × Nat × Int × Bool) := (impl_sequence.f l0_2 a0_1).bind fun bt117 => (if a0_0 = 1 then ((geom_Sequence_Length.f bt117.1 bt117.2).bind fun t122 => (impl_point.j0 k (t122 == 0) a0_0 a0_1 l0_2 l0_3 bt117.1 bt117.2)) else (impl_point.j0 k true a0_0 a0_1 l0_2 l0_3 bt117.1 bt117.2))
theorem impl_point.mono_l : ∀ k, (∀ y0 y1 y2 y3 y4 y5 y6, LeO (impl_point.j0 k y0 y1 y2 y3 y4 y5 y6) (impl_point.j0 (k + 1) y0 y1 y2 y3 y4 y5 y6))
  | 0 => fun _ _ _ _ _ _ _ r h => by simp [impl_point.j0] at h
  | k + 1 => by
    have ih0 := impl_point.mono_l k
    · intro y0 y1 y2 y3 y4 y5 y6
      unfold impl_point.j0
      repeat' first
      | (with_reducible exact ih0 _ _ _ _ _ _ _)
      | (with_reducible exact LeO.refl _)
      | (with_reducible exact LeO.none _)
      | (with_reducible refine LeO.ite ?_ ?_)
      | (with_reducible refine LeO.bind ?_ (fun _ => ?_))
      | exact ih0 _ _ _ _ _ _ _
      | exact LeO.none _
      | refine LeO.ite ?_ ?_
      | refine LeO.bind ?_ (fun _ => ?_)
theorem impl_point.mono : ∀ a0 a1 a2 a3 k, LeO (impl_point.f k a0 a1 a2 a3) (impl_point.f (k + 1) a0 a1 a2 a3) := by
  intro a0 a1 a2 a3 k
  have ih0 := impl_point.mono_l k
  unfold impl_point.f
  repeat' first
      | (with_reducible exact ih0 _ _ _ _ _ _ _)
      | (with_reducible exact LeO.refl _)
      | (with_reducible exact LeO.none _)
      | (with_reducible refine LeO.ite ?_ ?_)
      | (with_reducible refine LeO.bind ?_ (fun _ => ?_))
      | exact ih0 _ _ _ _ _ _ _
      | exact LeO.none _
      | refine LeO.ite ?_ ?_
      | refine LeO.bind ?_ (fun _ => ?_)
set_option maxHeartbeats 8000000 in
set_option maxRecDepth 100000 in
theorem impl_point.calls (k : Nat) (a0_0 : Int) (a0_1 : Int) (A0_2 : Option Addr) (c0_2 : Nat) (l0_2 : List Nat) (A0_3 : Option Addr) (c0_3 : Nat) (l0_3 : List (S25)) (r1 : Nat) (r2 : Nat) (r3 : Nat) (r4 : Nat) (r5 : Int) (r6 : Bool) (w : World) (hr0_2 : Kd.C Kd.float w A0_2 l0_2.length l0_2) (hc0_2 : l0_2.length ≤ c0_2) (hr0_3 : Kd.C k25 w A0_3 l0_3.length l0_3) (hc0_3 : l0_3.length ≤ c0_3) (h : impl_point.f k a0_0 a0_1 l0_2 l0_3 = some (r1, r2, r3, r4, r5, r6)) :
    Calls Tryz.prog 28 #[.agg #[.int .i64 a0_0, .int .i64 a0_1, .slice A0_2 l0_2.length c0_2, .slice A0_3 l0_3.length c0_3]] w fun e w' => e = .returned (.agg #[.float .f64 r1, .float .f64 r2, .float .f64 r3, .float .f64 r4, .int .u8 r5, .bool r6]) ∧ Below w.heap.size w w' := by
  have hu25 := Tryz.underlying25
  have hu52 := Tryz.underlying52
  have hu78 := Tryz.underlying78
  have HR0_2 := Aside0.mk hr0_2
  have HC0_2 := Aside0.mk hc0_2
  clear hr0_2 hc0_2
  have HR0_3 := Aside0.mk hr0_3
  have HC0_3 := Aside0.mk hc0_3
  clear hr0_3 hc0_3
  have HB := Aside0.mk (Below.refl w.heap.size w)
  have H : ((impl_sequence.f l0_2 a0_1).bind fun bt117 => (if a0_0 = 1 then ((geom_Sequence_Length.f bt117.1 bt117.2).bind fun t122 => (impl_point.j0 k (t122 == 0) a0_0 a0_1 l0_2 l0_3 bt117.1 bt117.2)) else (impl_point.j0 k true a0_0 a0_1 l0_2 l0_3 bt117.1 bt117.2))) = some (r1, r2, r3, r4, r5, r6) := h
  clear h
  replace H := Option.bind_eq_some_iff.mp H
  obtain ⟨⟨t117, t118⟩, A20, H⟩ := H
  replace H : (if a0_0 = 1 then ((geom_Sequence_Length.f t117 t118).bind fun t122 => (impl_point.j0 k (t122 == 0) a0_0 a0_1 l0_2 l0_3 t117 t118)) else (impl_point.j0 k true a0_0 a0_1 l0_2 l0_3 t117 t118)) = some (r1, r2, r3, r4, r5, r6) := H
  have A2 := Aside0.mk A20
  clear A20
  have HC3 := Aside0.mk H
  clear H
  go_enter Tryz.func28, Tryz.ntmps28
  go_upto_region 2 with (first | ((with_reducible refine gate_dst (N := 1) rfl ?_); refine box_event ?hg (N := 1) ?hd (cs := #[.int .i64 a0_0, .int .i64 a0_1, .slice A0_2 l0_2.length c0_2, .slice A0_3 l0_3.length c0_3]) (t := 25) ?hr ?_; (case hd => rfl); (case hg => rfl); (case hr => first | (go_simp; done) | (go_simp; rfl)); intro gb115 hg w4 hbox hb; have n0_ := Aside0.mk (below_step (by repeat (first | (with_reducible first | exact HB.out | apply below_alloc | apply pw_below_drewN | apply below_drew1) | exact HB.out)) hb); have n1_ := Aside0.mk (hbox); have n2_ := Aside0.mk ((by rw [hg]; exact (below_size (by repeat (first | (with_reducible first | exact HB.out | apply below_alloc | apply pw_below_drewN | apply below_drew1) | exact HB.out))) : w.heap.size ≤ gb115)); have n3_ := Aside0.mk ((by rw [hg]; exact (below_size (by repeat (first | (with_reducible first | exact HB.out | apply below_alloc | apply pw_below_drewN | apply below_drew1) | exact HB.out))) : w.heap.size ≤ gb115)); clear HB; have HB := n0_; have BK115 := n1_; have GW115 := n2_; have GE115 := n3_; clear n0_ n1_ n2_ n3_; clear hb hbox hg) | ((with_reducible refine gate_dst (N := 2) rfl ?_); refine box_event ?hg (N := 2) ?hd (cs := #[.float .f64 0, .float .f64 0, .float .f64 0, .float .f64 0, .int .u8 0, .bool false]) (t := 52) ?hr ?_; (case hd => rfl); (case hg => rfl); (case hr => first | (go_simp; done) | (go_simp; rfl)); intro gb116 hg w5 hbox hb; have n0_ := Aside0.mk (blk_below (g := gb115) (o := .cells #[.int .i64 a0_0, .int .i64 a0_1, .slice A0_2 l0_2.length c0_2, .slice A0_3 l0_3.length c0_3] 25 (0, 0)) (by (with_reducible repeat (first | refine blk_drewN ?_ _ | refine blk_drew ?_ | refine blk_alloc ?_ _)); exact BK115.out) hb); have n1_ := Aside0.mk (below_step (by repeat (first | (with_reducible first | exact HB.out | apply below_alloc | apply pw_below_drewN | apply below_drew1 | refine below_set ?_ GE115.out) | exact HB.out)) hb); have n2_ := Aside0.mk (hbox); have n3_ := Aside0.mk ((by rw [hg]; exact (below_size (by repeat (first | (with_reducible first | exact HB.out | apply below_alloc | apply pw_below_drewN | apply below_drew1 | refine below_set ?_ GE115.out) | exact HB.out))) : w.heap.size ≤ gb116)); have n4_ := Aside0.mk ((by rw [hg]; exact (below_size (by repeat (first | (with_reducible first | exact HB.out | apply below_alloc | apply pw_below_drewN | apply below_drew1 | refine below_set ?_ GE115.out) | exact HB.out))) : w.heap.size ≤ gb116)); have n5_ := Aside0.mk ((by rw [hg]; exact Nat.ne_of_lt (blk_lt (g := gb115) (o := .cells #[.int .i64 a0_0, .int .i64 a0_1, .slice A0_2 l0_2.length c0_2, .slice A0_3 l0_3.length c0_3] 25 (0, 0)) (by (with_reducible repeat (first | refine blk_drewN ?_ _ | refine blk_drew ?_ | refine blk_alloc ?_ _)); exact BK115.out)) : gb115 ≠ gb116)); have n6_ := Aside0.mk ((by rw [hg]; exact Nat.ne_of_gt (blk_lt (g := gb115) (o := .cells #[.int .i64 a0_0, .int .i64 a0_1, .slice A0_2 l0_2.length c0_2, .slice A0_3 l0_3.length c0_3] 25 (0, 0)) (by (with_reducible repeat (first | refine blk_drewN ?_ _ | refine blk_drew ?_ | refine blk_alloc ?_ _)); exact BK115.out)) : gb116 ≠ gb115)); clear BK115; clear HB; have BK115 := n0_; have HB := n1_; have BK116 := n2_; have GW116 := n3_; have GE116 := n4_; have NB115_116 := n5_; have NB116_115 := n6_; clear n0_ n1_ n2_ n3_ n4_ n5_ n6_; clear hb hbox hg; have hnb6 := NB115_116.out; have hnc6 := NB116_115.out; have hcz7_0 : w5.cell? ⟨gb115, 0, none⟩ = some (.int .i64 a0_0) := (blk_cell BK115.out 0).trans rfl; have hcz7_1 : w5.cell? ⟨gb115, 1, none⟩ = some (.int .i64 a0_1) := (blk_cell BK115.out 1).trans rfl; have hcz7_2 : w5.cell? ⟨gb115, 2, none⟩ = some (.slice A0_2 l0_2.length c0_2) := (blk_cell BK115.out 2).trans rfl; have hcz7_3 : w5.cell? ⟨gb115, 3, none⟩ = some (.slice A0_3 l0_3.length c0_3) := (blk_cell BK115.out 3).trans rfl; have hfz7_0 := blk_frozen BK115.out 0; have hfz7_1 := blk_frozen BK115.out 1; have hfz7_2 := blk_frozen BK115.out 2; have hfz7_3 := blk_frozen BK115.out 3) | ((with_reducible refine gate_callee (f := 51) rfl ?_); refine goesL_ (some 8) rfl rfl Tryz.func51 (by kernel_rfl) rfl #[.slice A0_2 l0_2.length c0_2, .int .i64 a0_1] rfl (by (try simp only [List.map_toArray, List.map_cons, List.map_nil]); first | done | rfl | (simp only [List.length_drop, List.length_take]; rfl)) ?_; (with_reducible refine (impl_sequence.calls _ _ l0_2 a0_1 t117 t118 _ ?side1 ?side2 A2.out).mono ?_); (case side1 => repeat (first | exact (Kd.C_below HR0_2.out HB.out) | (with_reducible refine Kd.C_alloc ?_ _) | (with_reducible refine Kd.C_drewN ?_ _) | (with_reducible refine Kd.C_drew ?_))); (case side2 => exact HC0_2.out); rintro e w8 ⟨v119, rfl, ho0, hb⟩; refine ⟨_, rfl, ?_⟩; have n0_ := Aside0.mk (Kd.R_lower ho0 (below_size (by repeat (first | (with_reducible first | exact HB.out | apply below_alloc | apply pw_below_drewN | apply below_drew1 | refine below_set ?_ GE115.out | refine below_set ?_ GE116.out) | exact HB.out)))); have n1_ := Aside0.mk (blk_below (g := gb115) (o := .cells #[.int .i64 a0_0, .int .i64 a0_1, .slice A0_2 l0_2.length c0_2, .slice A0_3 l0_3.length c0_3] 25 (0, 0)) (by (with_reducible repeat (first | refine blk_drewN ?_ _ | refine blk_drew ?_ | refine blk_alloc ?_ _)); exact BK115.out) hb); have n2_ := Aside0.mk (blk_below (g := gb116) (o := .cells #[.float .f64 0, .float .f64 0, .float .f64 0, .float .f64 0, .int .u8 0, .bool false] 52 (0, 0)) (by (with_reducible repeat (first | refine blk_drewN ?_ _ | refine blk_drew ?_ | refine blk_alloc ?_ _)); exact BK116.out) hb); have n3_ := Aside0.mk (below_step (by repeat (first | (with_reducible first | exact HB.out | apply below_alloc | apply pw_below_drewN | apply below_drew1 | refine below_set ?_ GE115.out | refine below_set ?_ GE116.out) | exact HB.out)) hb); clear BK115; clear BK116; clear HB; have HO120 := n0_; have BK115 := n1_; have BK116 := n2_; have HB := n3_; clear n0_ n1_ n2_ n3_; (try clear hb); (try clear hb2); (try clear hk); (try clear hi); (try clear ho0)) | ((with_reducible refine gate_dst (N := 3) rfl ?_); refine box_event ?hg (N := 3) ?hd (cs := #[.int .u8 0, .slice none 0 0]) (t := 78) ?hr ?_; (case hd => rfl); (case hg => rfl); (case hr => first | (go_simp; done) | (go_simp; rfl)); intro gb121 hg w9 hbox hb; have n0_ := Aside0.mk (Kd.R_below (by (with_reducible repeat (first | apply Kd.R_alloc | apply Kd.R_drewN | apply Kd.R_drew)); exact HO120.out) hb); have n1_ := Aside0.mk (blk_below (g := gb115) (o := .cells #[.int .i64 a0_0, .int .i64 a0_1, .slice A0_2 l0_2.length c0_2, .slice A0_3 l0_3.length c0_3] 25 (0, 0)) (by (with_reducible repeat (first | refine blk_drewN ?_ _ | refine blk_drew ?_ | refine blk_alloc ?_ _)); exact BK115.out) hb); have n2_ := Aside0.mk (blk_below (g := gb116) (o := .cells #[.float .f64 0, .float .f64 0, .float .f64 0, .float .f64 0, .int .u8 0, .bool false] 52 (0, 0)) (by (with_reducible repeat (first | refine blk_drewN ?_ _ | refine blk_drew ?_ | refine blk_alloc ?_ _)); exact BK116.out) hb); have n3_ := Aside0.mk (below_step (by repeat (first | (with_reducible first | exact HB.out | apply below_alloc | apply pw_below_drewN | apply below_drew1 | refine below_set ?_ GE115.out | refine below_set ?_ GE116.out) | exact HB.out)) hb); have n4_ := Aside0.mk (hbox); have n5_ := Aside0.mk ((by rw [hg]; exact (below_size (by repeat (first | (with_reducible first | exact HB.out | apply below_alloc | apply pw_below_drewN | apply below_drew1 | refine below_set ?_ GE115.out | refine below_set ?_ GE116.out) | exact HB.out))) : w.heap.size ≤ gb121)); have n6_ := Aside0.mk ((by rw [hg]; exact (below_size (by repeat (first | (with_reducible first | exact HB.out | apply below_alloc | apply pw_below_drewN | apply below_drew1 | refine below_set ?_ GE115.out | refine below_set ?_ GE116.out) | exact HB.out))) : w.heap.size ≤ gb121)); have n7_ := Aside0.mk ((by rw [hg]; exact Nat.ne_of_lt (blk_lt (g := gb115) (o := .cells #[.int .i64 a0_0, .int .i64 a0_1, .slice A0_2 l0_2.length c0_2, .slice A0_3 l0_3.length c0_3] 25 (0, 0)) (by (with_reducible repeat (first | refine blk_drewN ?_ _ | refine blk_drew ?_ | refine blk_alloc ?_ _)); exact BK115.out)) : gb115 ≠ gb121)); have n8_ := Aside0.mk ((by rw [hg]; exact Nat.ne_of_gt (blk_lt (g := gb115) (o := .cells #[.int .i64 a0_0, .int .i64 a0_1, .slice A0_2 l0_2.length c0_2, .slice A0_3 l0_3.length c0_3] 25 (0, 0)) (by (with_reducible repeat (first | refine blk_drewN ?_ _ | refine blk_drew ?_ | refine blk_alloc ?_ _)); exact BK115.out)) : gb121 ≠ gb115)); have n9_ := Aside0.mk ((by rw [hg]; exact Nat.ne_of_lt (blk_lt (g := gb116) (o := .cells #[.float .f64 0, .float .f64 0, .float .f64 0, .float .f64 0, .int .u8 0, .bool false] 52 (0, 0)) (by (with_reducible repeat (first | refine blk_drewN ?_ _ | refine blk_drew ?_ | refine blk_alloc ?_ _)); exact BK116.out)) : gb116 ≠ gb121)); have n10_ := Aside0.mk ((by rw [hg]; exact Nat.ne_of_gt (blk_lt (g := gb116) (o := .cells #[.float .f64 0, .float .f64 0, .float .f64 0, .float .f64 0, .int .u8 0, .bool false] 52 (0, 0)) (by (with_reducible repeat (first | refine blk_drewN ?_ _ | refine blk_drew ?_ | refine blk_alloc ?_ _)); exact BK116.out)) : gb121 ≠ gb116)); clear HO120; clear BK115; clear BK116; clear HB; have HO120 := n0_; have BK115 := n1_; have BK116 := n2_; have HB := n3_; have BK121 := n4_; have GW121 := n5_; have GE121 := n6_; have NB115_121 := n7_; have NB121_115 := n8_; have NB116_121 := n9_; have NB121_116 := n10_; clear n0_ n1_ n2_ n3_ n4_ n5_ n6_ n7_ n8_ n9_ n10_; clear hb hbox hg; have hnb10 := NB121_115.out; have hnc10 := NB115_121.out; have hnb11 := NB121_116.out; have hnc11 := NB116_121.out; have hcz12_0 : w9.cell? ⟨gb121, 0, none⟩ = some (.int .u8 0) := (blk_cell BK121.out 0).trans rfl; have hcz12_1 : w9.cell? ⟨gb121, 1, none⟩ = some (.slice none 0 0) := (blk_cell BK121.out 1).trans rfl; have hfz12_0 := blk_frozen BK121.out 0; have hfz12_1 := blk_frozen BK121.out 1; obtain ⟨Ao13, co13, eo13⟩ := Kd.R_slice HO120.out; subst eo13))
  (try simp only [Act.put, List.setIfInBounds_toArray, List.set_cons_zero, List.set_cons_succ])
  go_cut [16] (fun v16 wc => ∃ (kq : Nat) (x16_2 : Bool), v16 = .bool x16_2 ∧ Aside0 (impl_point.j0 kq x16_2 a0_0 a0_1 l0_2 l0_3 t117 t118 = some (r1, r2, r3, r4, r5, r6)) ∧ Aside0 (kq ≤ k) ∧ Aside0 (Kd.R Kd.float 45 wc w.heap.size (fun _ => True) (.slice Ao13 t118.length co13) t118) ∧ Aside0 (wc.heap[gb115]? = some (.cells #[.int .i64 a0_0, .int .i64 a0_1, (.slice A0_2 l0_2.length c0_2), (.slice A0_3 l0_3.length c0_3)] 25 (0, 0))) ∧ Aside0 (wc.heap[gb116]? = some (.cells #[.float .f64 0, .float .f64 0, .float .f64 0, .float .f64 0, .int .u8 0, .bool false] 52 (0, 0))) ∧ Aside0 (wc.heap[gb121]? = some (.cells #[.int .u8 t117, (.slice Ao13 t118.length co13)] 78 (0, 0))) ∧ Aside0 (Below w.heap.size w wc))
  case first =>
    have H := HC3.out
    clear HC3
    by_cases c14 : a0_0 = 1
    · rw [if_pos c14] at H
      have c14b0 : (a0_0 == 1) = true := beq_iff_eq.mpr c14
      have c14b1 : (a0_0 != 1) = false := bne_eq_false_iff_eq.mpr c14
      clear c14
      (first | rw [c14b0] | (simp only [i64_w, i32_w]; rw [c14b0]) | rw [c14b1] | skip)
      replace H := Option.bind_eq_some_iff.mp H
      obtain ⟨t122, A150, H⟩ := H
      replace H : (impl_point.j0 k (t122 == 0) a0_0 a0_1 l0_2 l0_3 t117 t118) = some (r1, r2, r3, r4, r5, r6) := H
      have A15 := Aside0.mk A150
      clear A150
      have H' := Aside0.mk H
      clear H
      have hnb16 := NB115_116.out
      have hnc16 := NB116_115.out
      have hnb17 := NB115_121.out
      have hnc17 := NB121_115.out
      have hcz18_0 : w9.cell? ⟨gb115, 0, none⟩ = some (.int .i64 a0_0) := (blk_cell BK115.out 0).trans rfl
      have hcz18_1 : w9.cell? ⟨gb115, 1, none⟩ = some (.int .i64 a0_1) := (blk_cell BK115.out 1).trans rfl
      have hcz18_2 : w9.cell? ⟨gb115, 2, none⟩ = some (.slice A0_2 l0_2.length c0_2) := (blk_cell BK115.out 2).trans rfl
      have hcz18_3 : w9.cell? ⟨gb115, 3, none⟩ = some (.slice A0_3 l0_3.length c0_3) := (blk_cell BK115.out 3).trans rfl
      have hfz18_0 := blk_frozen BK115.out 0
      have hfz18_1 := blk_frozen BK115.out 1
      have hfz18_2 := blk_frozen BK115.out 2
      have hfz18_3 := blk_frozen BK115.out 3
      have hnb19 := NB121_116.out
      have hnc19 := NB116_121.out
      have hcz20_0 : w9.cell? ⟨gb121, 0, none⟩ = some (.int .u8 0) := (blk_cell BK121.out 0).trans rfl
      have hcz20_1 : w9.cell? ⟨gb121, 1, none⟩ = some (.slice none 0 0) := (blk_cell BK121.out 1).trans rfl
      have hfz20_0 := blk_frozen BK121.out 0
      have hfz20_1 := blk_frozen BK121.out 1
      go_wp2_with (first | (go_at_call 52; (with_reducible refine (geom_Sequence_Length.calls t117 _ _ t118 t122 _ ?side1 ?side2 A15.out).mono ?_); (case side1 => refine (Kd.R_reads' (e := 45) (base := w.heap.size) (ok := fun k_ => True) (n := t118.length) (c := co13) ?_).2.2; exact (by (with_reducible repeat (first | apply Kd.R_alloc | apply Kd.R_drewN | apply Kd.R_drew)); exact (Kd.R_mono (Kd.R_far (p := ⟨gb121, 1, none⟩) (Kd.R_far (p := ⟨gb121, 0, none⟩) (Kd.R_types HO120.out BK121.out (by decide)) (fun _ hk => hk.2) (.int .u8 t117)) (fun _ hk => hk.2) (.slice Ao13 t118.length co13)) (fun _ h_ => h_.1)))); (case side2 => exact (Kd.R_reads' HO120.out).2.1); rintro e w21 ⟨rfl, hb⟩; have n0_ := Aside0.mk (Kd.R_below (by (with_reducible repeat (first | apply Kd.R_alloc | apply Kd.R_drewN | apply Kd.R_drew)); exact (Kd.R_mono (Kd.R_far (p := ⟨gb121, 1, none⟩) (Kd.R_far (p := ⟨gb121, 0, none⟩) (Kd.R_types HO120.out BK121.out (by decide)) (fun _ hk => hk.2) (.int .u8 t117)) (fun _ hk => hk.2) (.slice Ao13 t118.length co13)) (fun _ h_ => h_.1))) hb); have n1_ := Aside0.mk (blk_below (g := gb115) (o := .cells #[.int .i64 a0_0, .int .i64 a0_1, .slice A0_2 l0_2.length c0_2, .slice A0_3 l0_3.length c0_3] 25 (0, 0)) (by (with_reducible repeat (first | refine blk_drewN ?_ _ | refine blk_drew ?_ | refine blk_alloc ?_ _)); refine blk_far ?_ NB115_121.out _; (with_reducible repeat (first | refine blk_drewN ?_ _ | refine blk_drew ?_ | refine blk_alloc ?_ _)); refine blk_far ?_ NB115_121.out _; (with_reducible repeat (first | refine blk_drewN ?_ _ | refine blk_drew ?_ | refine blk_alloc ?_ _)); exact BK115.out) hb); have n2_ := Aside0.mk (blk_below (g := gb116) (o := .cells #[.float .f64 0, .float .f64 0, .float .f64 0, .float .f64 0, .int .u8 0, .bool false] 52 (0, 0)) (by (with_reducible repeat (first | refine blk_drewN ?_ _ | refine blk_drew ?_ | refine blk_alloc ?_ _)); refine blk_far ?_ NB116_121.out _; (with_reducible repeat (first | refine blk_drewN ?_ _ | refine blk_drew ?_ | refine blk_alloc ?_ _)); refine blk_far ?_ NB116_121.out _; (with_reducible repeat (first | refine blk_drewN ?_ _ | refine blk_drew ?_ | refine blk_alloc ?_ _)); exact BK116.out) hb); have n3_ := Aside0.mk (blk_below (g := gb121) (o := .cells #[.int .u8 t117, .slice Ao13 t118.length co13] 78 (0, 0)) (by (with_reducible repeat (first | refine blk_drewN ?_ _ | refine blk_drew ?_ | refine blk_alloc ?_ _)); refine blk_put (cs := #[.int .u8 t117, .slice none 0 0]) ?_ 1 _ rfl; (with_reducible repeat (first | refine blk_drewN ?_ _ | refine blk_drew ?_ | refine blk_alloc ?_ _)); refine blk_put (cs := #[.int .u8 0, .slice none 0 0]) ?_ 0 _ rfl; (with_reducible repeat (first | refine blk_drewN ?_ _ | refine blk_drew ?_ | refine blk_alloc ?_ _)); exact BK121.out) hb); have n4_ := Aside0.mk (below_step (by repeat (first | (with_reducible first | exact HB.out | apply below_alloc | apply pw_below_drewN | apply below_drew1 | refine below_set ?_ GE115.out | refine below_set ?_ GE116.out | refine below_set ?_ GE121.out) | exact HB.out)) hb); clear HO120; clear BK115; clear BK116; clear BK121; clear HB; have HO120 := n0_; have BK115 := n1_; have BK116 := n2_; have BK121 := n3_; have HB := n4_; clear n0_ n1_ n2_ n3_ n4_; (try clear hb); (try clear hb2); (try clear hk); (try clear hi)))
      go_meet
      case rel => exact ⟨_, ((t122 == 0)), (by first | rfl | (simp; done) | (simp [*]; done)), H', ⟨by first | omega | exact Nat.le_refl _⟩, ⟨by (with_reducible repeat (first | apply Kd.R_alloc | apply Kd.R_drewN | apply Kd.R_drew)); exact HO120.out⟩, ⟨by (with_reducible repeat (first | refine blk_drewN ?_ _ | refine blk_drew ?_ | refine blk_alloc ?_ _)); exact BK115.out⟩, ⟨by (with_reducible repeat (first | refine blk_drewN ?_ _ | refine blk_drew ?_ | refine blk_alloc ?_ _)); exact BK116.out⟩, ⟨by (with_reducible repeat (first | refine blk_drewN ?_ _ | refine blk_drew ?_ | refine blk_alloc ?_ _)); exact BK121.out⟩, ⟨by repeat (first | (with_reducible first | exact HB.out | apply below_alloc | apply pw_below_drewN | apply below_drew1 | refine below_set ?_ GE115.out | refine below_set ?_ GE116.out | refine below_set ?_ GE121.out) | exact HB.out)⟩⟩
    · rw [if_neg c14] at H
      have c14b0 : (a0_0 == 1) = false := beq_eq_false_iff_ne.mpr c14
      have c14b1 : (a0_0 != 1) = true := bne_iff_ne.mpr c14
      (first | rw [c14b0] | (simp only [i64_w, i32_w]; rw [c14b0]) | rw [c14b1] | skip)
      have H' := Aside0.mk H
      clear H
      have hnb22 := NB115_116.out
      have hnc22 := NB116_115.out
      have hnb23 := NB115_121.out
      have hnc23 := NB121_115.out
      have hcz24_0 : w9.cell? ⟨gb115, 0, none⟩ = some (.int .i64 a0_0) := (blk_cell BK115.out 0).trans rfl
      have hcz24_1 : w9.cell? ⟨gb115, 1, none⟩ = some (.int .i64 a0_1) := (blk_cell BK115.out 1).trans rfl
      have hcz24_2 : w9.cell? ⟨gb115, 2, none⟩ = some (.slice A0_2 l0_2.length c0_2) := (blk_cell BK115.out 2).trans rfl
      have hcz24_3 : w9.cell? ⟨gb115, 3, none⟩ = some (.slice A0_3 l0_3.length c0_3) := (blk_cell BK115.out 3).trans rfl
      have hfz24_0 := blk_frozen BK115.out 0
      have hfz24_1 := blk_frozen BK115.out 1
      have hfz24_2 := blk_frozen BK115.out 2
      have hfz24_3 := blk_frozen BK115.out 3
      go_wp2
      go_meet
      case rel => exact ⟨_, (true), (by first | rfl | (simp; done) | (simp [*]; done)), H', ⟨by first | omega | exact Nat.le_refl _⟩, ⟨by (with_reducible repeat (first | apply Kd.R_alloc | apply Kd.R_drewN | apply Kd.R_drew)); exact Kd.R_mono (Kd.R_far (p := ⟨gb121, 1, none⟩) (Kd.R_far (p := ⟨gb121, 0, none⟩) (Kd.R_types HO120.out BK121.out (by decide)) (fun _ hk => hk.2) (.int .u8 t117)) (fun _ hk => hk.2) (.slice Ao13 t118.length co13)) (fun _ hk => trivial)⟩, ⟨by (with_reducible repeat (first | refine blk_drewN ?_ _ | refine blk_drew ?_ | refine blk_alloc ?_ _)); refine blk_far ?_ NB115_121.out _; (with_reducible repeat (first | refine blk_drewN ?_ _ | refine blk_drew ?_ | refine blk_alloc ?_ _)); refine blk_far ?_ NB115_121.out _; (with_reducible repeat (first | refine blk_drewN ?_ _ | refine blk_drew ?_ | refine blk_alloc ?_ _)); exact BK115.out⟩, ⟨by (with_reducible repeat (first | refine blk_drewN ?_ _ | refine blk_drew ?_ | refine blk_alloc ?_ _)); refine blk_far ?_ NB116_121.out _; (with_reducible repeat (first | refine blk_drewN ?_ _ | refine blk_drew ?_ | refine blk_alloc ?_ _)); refine blk_far ?_ NB116_121.out _; (with_reducible repeat (first | refine blk_drewN ?_ _ | refine blk_drew ?_ | refine blk_alloc ?_ _)); exact BK116.out⟩, ⟨by (with_reducible repeat (first | refine blk_drewN ?_ _ | refine blk_drew ?_ | refine blk_alloc ?_ _)); refine blk_put (cs := #[.int .u8 t117, .slice none 0 0]) ?_ 1 _ rfl; (with_reducible repeat (first | refine blk_drewN ?_ _ | refine blk_drew ?_ | refine blk_alloc ?_ _)); refine blk_put (cs := #[.int .u8 0, .slice none 0 0]) ?_ 0 _ rfl; (with_reducible repeat (first | refine blk_drewN ?_ _ | refine blk_drew ?_ | refine blk_alloc ?_ _)); exact BK121.out⟩, ⟨by repeat (first | (with_reducible first | exact HB.out | apply below_alloc | apply pw_below_drewN | apply below_drew1 | refine below_set ?_ GE115.out | refine below_set ?_ GE116.out | refine below_set ?_ GE121.out) | exact HB.out)⟩⟩
  case rest =>
    clear HC3
    try clear c1
    try clear c2
    try clear p2
    try clear c5
    try clear c6
    try clear c10
    try clear c11
    try clear c14
    try clear c14b0
    try clear c14b1
    try clear c16
    try clear c17
    try clear c19
    try clear c22
    try clear c23
    try clear hcz12_0
    try clear hcz12_1
    try clear hcz18_0
    try clear hcz18_1
    try clear hcz18_2
    try clear hcz18_3
    try clear hcz20_0
    try clear hcz20_1
    try clear hcz24_0
    try clear hcz24_1
    try clear hcz24_2
    try clear hcz24_3
    try clear hcz7_0
    try clear hcz7_1
    try clear hcz7_2
    try clear hcz7_3
    try clear hfz12_0
    try clear hfz12_1
    try clear hfz18_0
    try clear hfz18_1
    try clear hfz18_2
    try clear hfz18_3
    try clear hfz20_0
    try clear hfz20_1
    try clear hfz24_0
    try clear hfz24_1
    try clear hfz24_2
    try clear hfz24_3
    try clear hfz7_0
    try clear hfz7_1
    try clear hfz7_2
    try clear hfz7_3
    obtain ⟨kq, x16_2, rfl, HA, HJ2, HO_122001, BK115, BK116, BK121, HB⟩ := hcut
    cases kq with
    | zero => exact absurd HA.out (by simp [impl_point.j0])
    | succ kj2 =>
      have H := HA.out
      clear HA
      simp only [impl_point.j0] at H
      by_cases c25 : x16_2 = true
      · subst c25
        have H1 : ((impl_dimOf.f a0_1).bind fun t123 => ((geom_NewEmptyPoint.f t123).bind fun bt124 => (some (bt124.1, bt124.2.1, bt124.2.2.1, bt124.2.2.2.1, bt124.2.2.2.2.1, bt124.2.2.2.2.2)))) = some (r1, r2, r3, r4, r5, r6) := by rw [if_pos rfl] at H; exact H
        clear H
        have H := H1
        clear H1
        replace H := Option.bind_eq_some_iff.mp H
        obtain ⟨t123, A260, H⟩ := H
        replace H : ((geom_NewEmptyPoint.f t123).bind fun bt124 => (some (bt124.1, bt124.2.1, bt124.2.2.1, bt124.2.2.2.1, bt124.2.2.2.2.1, bt124.2.2.2.2.2))) = some (r1, r2, r3, r4, r5, r6) := H
        have A26 := Aside0.mk A260
        clear A260
        replace H := Option.bind_eq_some_iff.mp H
        obtain ⟨⟨t124, t125, t126, t127, t128, t129⟩, A270, H⟩ := H
        replace H : (some (t124, t125, t126, t127, t128, t129)) = some (r1, r2, r3, r4, r5, r6) := H
        have A27 := Aside0.mk A270
        clear A270
        simp only [Option.some.injEq, Prod.mk.injEq] at H
        obtain ⟨rfl, rfl, rfl, rfl, rfl, rfl⟩ := H
        have hnb28 := NB115_116.out
        have hnc28 := NB116_115.out
        have hnb29 := NB115_121.out
        have hnc29 := NB121_115.out
        have hcz30_0 : wc.cell? ⟨gb115, 0, none⟩ = some (.int .i64 a0_0) := (blk_cell BK115.out 0).trans rfl
        have hcz30_1 : wc.cell? ⟨gb115, 1, none⟩ = some (.int .i64 a0_1) := (blk_cell BK115.out 1).trans rfl
        have hcz30_2 : wc.cell? ⟨gb115, 2, none⟩ = some (.slice A0_2 l0_2.length c0_2) := (blk_cell BK115.out 2).trans rfl
        have hcz30_3 : wc.cell? ⟨gb115, 3, none⟩ = some (.slice A0_3 l0_3.length c0_3) := (blk_cell BK115.out 3).trans rfl
        have hfz30_0 := blk_frozen BK115.out 0
        have hfz30_1 := blk_frozen BK115.out 1
        have hfz30_2 := blk_frozen BK115.out 2
        have hfz30_3 := blk_frozen BK115.out 3
        go_wp2_with (first | ((with_reducible refine gate_callee (f := 54) rfl ?_); refine goesL_ (some 19) rfl rfl Tryz.func54 (by kernel_rfl) rfl #[.int .i64 a0_1] rfl (by (try simp only [List.map_toArray, List.map_cons, List.map_nil]); first | done | rfl | (simp only [List.length_drop, List.length_take]; rfl)) ?_; (with_reducible refine (impl_dimOf.calls a0_1 t123 _ A26.out).mono ?_); rintro e w' ⟨rfl, ⟨nd, rfl⟩⟩; refine ⟨_, rfl, ?_⟩; (try (rw [drewN_self wc]; generalize hq_ : World.drewN wc _ = wc; have n0_ : Aside0 (Kd.R Kd.float 45 wc w.heap.size (fun _ => True) (.slice Ao13 t118.length co13) t118) := ⟨by rw [← hq_]; exact (by (with_reducible repeat (first | apply Kd.R_alloc | apply Kd.R_drewN | apply Kd.R_drew)); exact HO_122001.out)⟩; have n1_ : Aside0 (wc.heap[gb115]? = some (.cells #[.int .i64 a0_0, .int .i64 a0_1, .slice A0_2 l0_2.length c0_2, .slice A0_3 l0_3.length c0_3] 25 (0, 0))) := ⟨by rw [← hq_]; exact (by (with_reducible repeat (first | refine blk_drewN ?_ _ | refine blk_drew ?_ | refine blk_alloc ?_ _)); exact BK115.out)⟩; have n2_ : Aside0 (wc.heap[gb116]? = some (.cells #[.float .f64 0, .float .f64 0, .float .f64 0, .float .f64 0, .int .u8 0, .bool false] 52 (0, 0))) := ⟨by rw [← hq_]; exact (by (with_reducible repeat (first | refine blk_drewN ?_ _ | refine blk_drew ?_ | refine blk_alloc ?_ _)); exact BK116.out)⟩; have n3_ : Aside0 (wc.heap[gb121]? = some (.cells #[.int .u8 t117, .slice Ao13 t118.length co13] 78 (0, 0))) := ⟨by rw [← hq_]; exact (by (with_reducible repeat (first | refine blk_drewN ?_ _ | refine blk_drew ?_ | refine blk_alloc ?_ _)); exact BK121.out)⟩; have n4_ : Aside0 (Below w.heap.size w wc) := ⟨by rw [← hq_]; exact (by repeat (first | (with_reducible first | exact HB.out | apply below_alloc | apply pw_below_drewN | apply below_drew1 | refine below_set ?_ GE115.out | refine below_set ?_ GE116.out | refine below_set ?_ GE121.out) | exact HB.out))⟩; clear HO_122001 BK115 BK116 BK121 HB hq_; have HO_122001 := n0_; have BK115 := n1_; have BK116 := n2_; have BK121 := n3_; have HB := n4_; clear n0_ n1_ n2_ n3_ n4_))) | ((with_reducible refine gate_callee (f := 53) rfl ?_); refine goesL_ (some 20) rfl rfl Tryz.func53 (by kernel_rfl) rfl #[.int .u8 t123] rfl (by (try simp only [List.map_toArray, List.map_cons, List.map_nil]); first | done | rfl | (simp only [List.length_drop, List.length_take]; rfl)) ?_; (with_reducible refine (geom_NewEmptyPoint.calls t123 t124 t125 t126 t127 t128 t129 _ A27.out).mono ?_); rintro e w31 ⟨rfl, hb⟩; refine ⟨_, rfl, ?_⟩; have n0_ := Aside0.mk (Kd.R_below (by (with_reducible repeat (first | apply Kd.R_alloc | apply Kd.R_drewN | apply Kd.R_drew)); exact HO_122001.out) hb); have n1_ := Aside0.mk (blk_below (g := gb115) (o := .cells #[.int .i64 a0_0, .int .i64 a0_1, .slice A0_2 l0_2.length c0_2, .slice A0_3 l0_3.length c0_3] 25 (0, 0)) (by (with_reducible repeat (first | refine blk_drewN ?_ _ | refine blk_drew ?_ | refine blk_alloc ?_ _)); exact BK115.out) hb); have n2_ := Aside0.mk (blk_below (g := gb116) (o := .cells #[.float .f64 0, .float .f64 0, .float .f64 0, .float .f64 0, .int .u8 0, .bool false] 52 (0, 0)) (by (with_reducible repeat (first | refine blk_drewN ?_ _ | refine blk_drew ?_ | refine blk_alloc ?_ _)); exact BK116.out) hb); have n3_ := Aside0.mk (blk_below (g := gb121) (o := .cells #[.int .u8 t117, .slice Ao13 t118.length co13] 78 (0, 0)) (by (with_reducible repeat (first | refine blk_drewN ?_ _ | refine blk_drew ?_ | refine blk_alloc ?_ _)); exact BK121.out) hb); have n4_ := Aside0.mk (below_step (by repeat (first | (with_reducible first | exact HB.out | apply below_alloc | apply pw_below_drewN | apply below_drew1 | refine below_set ?_ GE115.out | refine below_set ?_ GE116.out | refine below_set ?_ GE121.out) | exact HB.out)) hb); clear HO_122001; clear BK115; clear BK116; clear BK121; clear HB; have HO_122001 := n0_; have BK115 := n1_; have BK116 := n2_; have BK121 := n3_; have HB := n4_; clear n0_ n1_ n2_ n3_ n4_; (try clear hb); (try clear hb2); (try clear hk); (try clear hi); have hnb32 := NB116_121.out; have hnc32 := NB121_116.out; have hcz33_0 : w31.cell? ⟨gb116, 0, none⟩ = some (.float .f64 0) := (blk_cell BK116.out 0).trans rfl; have hcz33_1 : w31.cell? ⟨gb116, 1, none⟩ = some (.float .f64 0) := (blk_cell BK116.out 1).trans rfl; have hcz33_2 : w31.cell? ⟨gb116, 2, none⟩ = some (.float .f64 0) := (blk_cell BK116.out 2).trans rfl; have hcz33_3 : w31.cell? ⟨gb116, 3, none⟩ = some (.float .f64 0) := (blk_cell BK116.out 3).trans rfl; have hcz33_4 : w31.cell? ⟨gb116, 4, none⟩ = some (.int .u8 0) := (blk_cell BK116.out 4).trans rfl; have hcz33_5 : w31.cell? ⟨gb116, 5, none⟩ = some (.bool false) := (blk_cell BK116.out 5).trans rfl; have hfz33_0 := blk_frozen BK116.out 0; have hfz33_1 := blk_frozen BK116.out 1; have hfz33_2 := blk_frozen BK116.out 2; have hfz33_3 := blk_frozen BK116.out 3; have hfz33_4 := blk_frozen BK116.out 4; have hfz33_5 := blk_frozen BK116.out 5))
        refine bodyPost_ret (results_cell_row rfl _ _ gb116 52 #[.float .f64 t124, .float .f64 t125, .float .f64 t126, .float .f64 t127, .int .u8 t128, .bool t129] (0, 0) _ rfl (by (with_reducible repeat (first | refine blk_drewN ?_ _ | refine blk_drew ?_ | refine blk_alloc ?_ _)); refine blk_put (cs := #[.float .f64 t124, .float .f64 t125, .float .f64 t126, .float .f64 t127, .int .u8 t128, .bool false]) ?_ 5 _ rfl; (with_reducible repeat (first | refine blk_drewN ?_ _ | refine blk_drew ?_ | refine blk_alloc ?_ _)); refine blk_put (cs := #[.float .f64 t124, .float .f64 t125, .float .f64 t126, .float .f64 t127, .int .u8 0, .bool false]) ?_ 4 _ rfl; (with_reducible repeat (first | refine blk_drewN ?_ _ | refine blk_drew ?_ | refine blk_alloc ?_ _)); refine blk_put (cs := #[.float .f64 t124, .float .f64 t125, .float .f64 t126, .float .f64 0, .int .u8 0, .bool false]) ?_ 3 _ rfl; (with_reducible repeat (first | refine blk_drewN ?_ _ | refine blk_drew ?_ | refine blk_alloc ?_ _)); refine blk_put (cs := #[.float .f64 t124, .float .f64 t125, .float .f64 0, .float .f64 0, .int .u8 0, .bool false]) ?_ 2 _ rfl; (with_reducible repeat (first | refine blk_drewN ?_ _ | refine blk_drew ?_ | refine blk_alloc ?_ _)); refine blk_put (cs := #[.float .f64 t124, .float .f64 0, .float .f64 0, .float .f64 0, .int .u8 0, .bool false]) ?_ 1 _ rfl; (with_reducible repeat (first | refine blk_drewN ?_ _ | refine blk_drew ?_ | refine blk_alloc ?_ _)); refine blk_put (cs := #[.float .f64 0, .float .f64 0, .float .f64 0, .float .f64 0, .int .u8 0, .bool false]) ?_ 0 _ rfl; (with_reducible repeat (first | refine blk_drewN ?_ _ | refine blk_drew ?_ | refine blk_alloc ?_ _)); exact BK116.out) Tryz.underlying52 rfl (by kernel_rfl)) rfl ?_
        exact ⟨by first | rfl | (simp [errW_none, errW_some] <;> rfl) | (simp [*, errW_none, errW_some] <;> rfl), by repeat (first | (with_reducible first | exact HB.out | apply below_alloc | apply pw_below_drewN | apply below_drew1 | refine below_set ?_ GE115.out | refine below_set ?_ GE116.out | refine below_set ?_ GE121.out) | exact HB.out)⟩
      · replace c25 := Bool.eq_false_iff.mpr c25
        subst c25
        have H1 : ((geom_Sequence_Get.f t117 t118 0).bind fun bt130 => ((geom_NewPoint.f bt130.1 bt130.2.1 bt130.2.2.1 bt130.2.2.2.1 bt130.2.2.2.2).bind fun bt135 => (some (bt135.1, bt135.2.1, bt135.2.2.1, bt135.2.2.2.1, bt135.2.2.2.2.1, bt135.2.2.2.2.2)))) = some (r1, r2, r3, r4, r5, r6) := by rw [if_neg (show ¬ (false = true) by decide)] at H; exact H
        clear H
        have H := H1
        clear H1
        replace H := Option.bind_eq_some_iff.mp H
        obtain ⟨⟨t130, t131, t132, t133, t134⟩, A340, H⟩ := H
        replace H : ((geom_NewPoint.f t130 t131 t132 t133 t134).bind fun bt135 => (some (bt135.1, bt135.2.1, bt135.2.2.1, bt135.2.2.2.1, bt135.2.2.2.2.1, bt135.2.2.2.2.2))) = some (r1, r2, r3, r4, r5, r6) := H
        have A34 := Aside0.mk A340
        clear A340
        replace H := Option.bind_eq_some_iff.mp H
        obtain ⟨⟨t135, t136, t137, t138, t139, t140⟩, A350, H⟩ := H
        replace H : (some (t135, t136, t137, t138, t139, t140)) = some (r1, r2, r3, r4, r5, r6) := H
        have A35 := Aside0.mk A350
        clear A350
        simp only [Option.some.injEq, Prod.mk.injEq] at H
        obtain ⟨rfl, rfl, rfl, rfl, rfl, rfl⟩ := H
        have hnb36 := NB121_115.out
        have hnc36 := NB115_121.out
        have hnb37 := NB121_116.out
        have hnc37 := NB116_121.out
        have hcz38_0 : wc.cell? ⟨gb121, 0, none⟩ = some (.int .u8 t117) := (blk_cell BK121.out 0).trans rfl
        have hcz38_1 : wc.cell? ⟨gb121, 1, none⟩ = some (.slice Ao13 t118.length co13) := (blk_cell BK121.out 1).trans rfl
        have hfz38_0 := blk_frozen BK121.out 0
        have hfz38_1 := blk_frozen BK121.out 1
        go_wp2_with (first | ((with_reducible refine gate_callee (f := 56) rfl ?_); refine goesL_ (some 22) rfl rfl Tryz.func56 (by kernel_rfl) rfl #[.agg #[.int .u8 t117, .slice Ao13 t118.length co13], .int .i64 0] rfl (by (try simp only [List.map_toArray, List.map_cons, List.map_nil]); first | done | rfl | (simp only [List.length_drop, List.length_take]; rfl)) ?_; (with_reducible refine (geom_Sequence_Get.calls t117 _ _ t118 0 t130 t131 t132 t133 t134 _ ?side1 ?side2 A34.out).mono ?_); (case side1 => repeat (first | exact (Kd.R_reads' HO_122001.out).2.2 | (with_reducible refine Kd.C_alloc ?_ _) | (with_reducible refine Kd.C_drewN ?_ _) | (with_reducible refine Kd.C_drew ?_))); (case side2 => exact (Kd.R_reads' HO_122001.out).2.1); rintro e w39 ⟨rfl, hb⟩; refine ⟨_, rfl, ?_⟩; have n0_ := Aside0.mk (Kd.R_below (by (with_reducible repeat (first | apply Kd.R_alloc | apply Kd.R_drewN | apply Kd.R_drew)); exact HO_122001.out) hb); have n1_ := Aside0.mk (blk_below (g := gb115) (o := .cells #[.int .i64 a0_0, .int .i64 a0_1, .slice A0_2 l0_2.length c0_2, .slice A0_3 l0_3.length c0_3] 25 (0, 0)) (by (with_reducible repeat (first | refine blk_drewN ?_ _ | refine blk_drew ?_ | refine blk_alloc ?_ _)); exact BK115.out) hb); have n2_ := Aside0.mk (blk_below (g := gb116) (o := .cells #[.float .f64 0, .float .f64 0, .float .f64 0, .float .f64 0, .int .u8 0, .bool false] 52 (0, 0)) (by (with_reducible repeat (first | refine blk_drewN ?_ _ | refine blk_drew ?_ | refine blk_alloc ?_ _)); exact BK116.out) hb); have n3_ := Aside0.mk (blk_below (g := gb121) (o := .cells #[.int .u8 t117, .slice Ao13 t118.length co13] 78 (0, 0)) (by (with_reducible repeat (first | refine blk_drewN ?_ _ | refine blk_drew ?_ | refine blk_alloc ?_ _)); exact BK121.out) hb); have n4_ := Aside0.mk (below_step (by repeat (first | (with_reducible first | exact HB.out | apply below_alloc | apply pw_below_drewN | apply below_drew1 | refine below_set ?_ GE115.out | refine below_set ?_ GE116.out | refine below_set ?_ GE121.out) | exact HB.out)) hb); clear HO_122001; clear BK115; clear BK116; clear BK121; clear HB; have HO_122001 := n0_; have BK115 := n1_; have BK116 := n2_; have BK121 := n3_; have HB := n4_; clear n0_ n1_ n2_ n3_ n4_; (try clear hb); (try clear hb2); (try clear hk); (try clear hi)) | ((with_reducible refine gate_callee (f := 55) rfl ?_); refine goesL_ (some 23) rfl rfl Tryz.func55 (by kernel_rfl) rfl #[.agg #[.float .f64 t130, .float .f64 t131, .float .f64 t132, .float .f64 t133, .int .u8 t134]] rfl (by (try simp only [List.map_toArray, List.map_cons, List.map_nil]); first | done | rfl | (simp only [List.length_drop, List.length_take]; rfl)) ?_; (with_reducible refine (geom_NewPoint.calls t130 t131 t132 t133 t134 t135 t136 t137 t138 t139 t140 _ A35.out).mono ?_); rintro e w40 ⟨rfl, hb⟩; refine ⟨_, rfl, ?_⟩; have n0_ := Aside0.mk (Kd.R_below (by (with_reducible repeat (first | apply Kd.R_alloc | apply Kd.R_drewN | apply Kd.R_drew)); exact HO_122001.out) hb); have n1_ := Aside0.mk (blk_below (g := gb115) (o := .cells #[.int .i64 a0_0, .int .i64 a0_1, .slice A0_2 l0_2.length c0_2, .slice A0_3 l0_3.length c0_3] 25 (0, 0)) (by (with_reducible repeat (first | refine blk_drewN ?_ _ | refine blk_drew ?_ | refine blk_alloc ?_ _)); exact BK115.out) hb); have n2_ := Aside0.mk (blk_below (g := gb116) (o := .cells #[.float .f64 0, .float .f64 0, .float .f64 0, .float .f64 0, .int .u8 0, .bool false] 52 (0, 0)) (by (with_reducible repeat (first | refine blk_drewN ?_ _ | refine blk_drew ?_ | refine blk_alloc ?_ _)); exact BK116.out) hb); have n3_ := Aside0.mk (blk_below (g := gb121) (o := .cells #[.int .u8 t117, .slice Ao13 t118.length co13] 78 (0, 0)) (by (with_reducible repeat (first | refine blk_drewN ?_ _ | refine blk_drew ?_ | refine blk_alloc ?_ _)); exact BK121.out) hb); have n4_ := Aside0.mk (below_step (by repeat (first | (with_reducible first | exact HB.out | apply below_alloc | apply pw_below_drewN | apply below_drew1 | refine below_set ?_ GE115.out | refine below_set ?_ GE116.out | refine below_set ?_ GE121.out) | exact HB.out)) hb); clear HO_122001; clear BK115; clear BK116; clear BK121; clear HB; have HO_122001 := n0_; have BK115 := n1_; have BK116 := n2_; have BK121 := n3_; have HB := n4_; clear n0_ n1_ n2_ n3_ n4_; (try clear hb); (try clear hb2); (try clear hk); (try clear hi); have hnb41 := NB116_115.out; have hnc41 := NB115_116.out; have hcz42_0 : w40.cell? ⟨gb116, 0, none⟩ = some (.float .f64 0) := (blk_cell BK116.out 0).trans rfl; have hcz42_1 : w40.cell? ⟨gb116, 1, none⟩ = some (.float .f64 0) := (blk_cell BK116.out 1).trans rfl; have hcz42_2 : w40.cell? ⟨gb116, 2, none⟩ = some (.float .f64 0) := (blk_cell BK116.out 2).trans rfl; have hcz42_3 : w40.cell? ⟨gb116, 3, none⟩ = some (.float .f64 0) := (blk_cell BK116.out 3).trans rfl; have hcz42_4 : w40.cell? ⟨gb116, 4, none⟩ = some (.int .u8 0) := (blk_cell BK116.out 4).trans rfl; have hcz42_5 : w40.cell? ⟨gb116, 5, none⟩ = some (.bool false) := (blk_cell BK116.out 5).trans rfl; have hfz42_0 := blk_frozen BK116.out 0; have hfz42_1 := blk_frozen BK116.out 1; have hfz42_2 := blk_frozen BK116.out 2; have hfz42_3 := blk_frozen BK116.out 3; have hfz42_4 := blk_frozen BK116.out 4; have hfz42_5 := blk_frozen BK116.out 5))
        refine bodyPost_ret (results_cell_row rfl _ _ gb116 52 #[.float .f64 t135, .float .f64 t136, .float .f64 t137, .float .f64 t138, .int .u8 t139, .bool t140] (0, 0) _ rfl (by (with_reducible repeat (first | refine blk_drewN ?_ _ | refine blk_drew ?_ | refine blk_alloc ?_ _)); refine blk_put (cs := #[.float .f64 t135, .float .f64 t136, .float .f64 t137, .float .f64 t138, .int .u8 t139, .bool false]) ?_ 5 _ rfl; (with_reducible repeat (first | refine blk_drewN ?_ _ | refine blk_drew ?_ | refine blk_alloc ?_ _)); refine blk_put (cs := #[.float .f64 t135, .float .f64 t136, .float .f64 t137, .float .f64 t138, .int .u8 0, .bool false]) ?_ 4 _ rfl; (with_reducible repeat (first | refine blk_drewN ?_ _ | refine blk_drew ?_ | refine blk_alloc ?_ _)); refine blk_put (cs := #[.float .f64 t135, .float .f64 t136, .float .f64 t137, .float .f64 0, .int .u8 0, .bool false]) ?_ 3 _ rfl; (with_reducible repeat (first | refine blk_drewN ?_ _ | refine blk_drew ?_ | refine blk_alloc ?_ _)); refine blk_put (cs := #[.float .f64 t135, .float .f64 t136, .float .f64 0, .float .f64 0, .int .u8 0, .bool false]) ?_ 2 _ rfl; (with_reducible repeat (first | refine blk_drewN ?_ _ | refine blk_drew ?_ | refine blk_alloc ?_ _)); refine blk_put (cs := #[.float .f64 t135, .float .f64 0, .float .f64 0, .float .f64 0, .int .u8 0, .bool false]) ?_ 1 _ rfl; (with_reducible repeat (first | refine blk_drewN ?_ _ | refine blk_drew ?_ | refine blk_alloc ?_ _)); refine blk_put (cs := #[.float .f64 0, .float .f64 0, .float .f64 0, .float .f64 0, .int .u8 0, .bool false]) ?_ 0 _ rfl; (with_reducible repeat (first | refine blk_drewN ?_ _ | refine blk_drew ?_ | refine blk_alloc ?_ _)); exact BK116.out) Tryz.underlying52 rfl (by kernel_rfl)) rfl ?_
        exact ⟨by first | rfl | (simp [errW_none, errW_some] <;> rfl) | (simp [*, errW_none, errW_some] <;> rfl), by repeat (first | (with_reducible first | exact HB.out | apply below_alloc | apply pw_below_drewN | apply below_drew1 | refine below_set ?_ GE115.out | refine below_set ?_ GE116.out | refine below_set ?_ GE121.out) | exact HB.out)⟩

/-! ### geom_appendWKTHeader: function 108 -/
def geom_appendWKTHeader.f (l0 : List Int) (a1 : ByteArray) (a2 : Int) : Option (List Int) := if l0.length + a1.size < 140737488355328 then ((some (l0 ++ bytesOf a1 : List Int)).bind fun y141 => ((arrAt ([(⟨#[]⟩ : ByteArray), (⟨#[32, 90, 32]⟩ : ByteArray), (⟨#[32, 77, 32]⟩ : ByteArray), (⟨#[32, 90, 77, 32]⟩ : ByteArray)] : List ByteArray) a2).bind fun q144 => (if y141.length + q144.size < 140737488355328 then (some (y141 ++ bytesOf q144)) else (none)))) else (none)
set_option maxHeartbeats 8000000 in
set_option maxRecDepth 100000 in
theorem geom_appendWKTHeader.calls (P0_ : Nat → Prop) (u9000_ : Value) (l0 : List Int) (a1 : ByteArray) (a2 : Int) (r : List Int) (w0 w : World) (hB : Below w0.heap.size w0 w) (ho0 : Kd.R (Kd.int .u8) 5 w w0.heap.size P0_ u9000_ l0) (h : geom_appendWKTHeader.f l0 a1 a2 = some r) :
    Calls Tryz.prog 108 #[u9000_, .string a1, .int .u8 a2] w fun e w' => ∃ v0_ : Value, e = .returned (v0_) ∧ Kd.R (Kd.int .u8) 5 w' w0.heap.size (fun k_ => (P0_ k_ ∨ w.heap.size ≤ k_)) v0_ r ∧ Below w0.heap.size w0 w' ∧ Kept w w' (fun k_ => P0_ k_) := by
  have HO0 := Aside0.mk (show Kd.R (Kd.int .u8) 5 w w0.heap.size (fun k_ => (P0_ k_ ∨ w.heap.size ≤ k_)) u9000_ l0 from Kd.R_mono ho0 (fun k_ hk => (.inl hk)))
  have HK := Aside0.mk (Kept.refl w (fun k_ => P0_ k_))
  have HW0 := Aside0.mk hB.size
  have HB := Aside0.mk hB
  clear hB
  have H : (if l0.length + a1.size < 140737488355328 then ((some (l0 ++ bytesOf a1 : List Int)).bind fun y141 => ((arrAt ([(⟨#[]⟩ : ByteArray), (⟨#[32, 90, 32]⟩ : ByteArray), (⟨#[32, 77, 32]⟩ : ByteArray), (⟨#[32, 90, 77, 32]⟩ : ByteArray)] : List ByteArray) a2).bind fun q144 => (if y141.length + q144.size < 140737488355328 then (some (y141 ++ bytesOf q144)) else (none)))) else (none)) = some r := h
  clear h
  by_cases c4 : l0.length + a1.size < 140737488355328
  · rw [if_pos c4] at H
    have LMc4 := Aside0.mk c4
    clear c4
    obtain ⟨y141, hy141⟩ : ∃ y_ : List Int, y_ = (l0 ++ bytesOf a1) := ⟨_, rfl⟩
    replace H : ((arrAt ([(⟨#[]⟩ : ByteArray), (⟨#[32, 90, 32]⟩ : ByteArray), (⟨#[32, 77, 32]⟩ : ByteArray), (⟨#[32, 90, 77, 32]⟩ : ByteArray)] : List ByteArray) a2).bind fun q144 => (if y141.length + q144.size < 140737488355328 then (some (y141 ++ bytesOf q144)) else (none))) = some r := by first | (rw [hy141]; with_reducible exact H) | (have H2_ := (Option.bind_some _ _).symm.trans H; rw [hy141]; with_reducible exact H2_) | (have H2_ := (Option.bind_some _ _).symm.trans H; with_reducible exact H2_) | with_reducible exact H | (rw [hy141]; exact H) | exact H
    have Ny141 := Aside0.mk hy141
    clear hy141
    replace H := Option.bind_eq_some_iff.mp H
    obtain ⟨q144, A_q144, H⟩ := H
    replace H : (if y141.length + q144.size < 140737488355328 then (some (y141 ++ bytesOf q144)) else (none)) = some r := H
    have hq_q144 := fun w_ : World => run_index_arr (P := Tryz.prog) w_ Tryz.underlying149 (by kernel_rfl) (by kernel_rfl) rfl Value.string .u8 A_q144
    (try simp only [List.map_cons, List.map_nil] at hq_q144)
    clear A_q144
    by_cases c5 : y141.length + q144.size < 140737488355328
    · rw [if_pos c5] at H
      have LMc5 := Aside0.mk c5
      clear c5
      obtain ⟨y145, hy145⟩ : ∃ y_ : List Int, y_ = (y141 ++ bytesOf q144) := ⟨_, rfl⟩
      replace H : (some y145) = some r := by first | (rw [hy145]; with_reducible exact H) | (have H2_ := (Option.bind_some _ _).symm.trans H; rw [hy145]; with_reducible exact H2_) | (have H2_ := (Option.bind_some _ _).symm.trans H; with_reducible exact H2_) | with_reducible exact H | (rw [hy145]; exact H) | exact H
      have Ny145 := Aside0.mk hy145
      clear hy145
      obtain rfl := Option.some.inj H
      go_enter Tryz.func108, Tryz.ntmps108
      go_wp2_with (first | (at_builtin; refine app_str_at (w0 := w0) w0.heap.size rfl (.tmp 7) _ 30 9 rfl Tryz.underlying30 Tryz.underlying9 info5 u9000_ l0 a1 (fun k_ => (P0_ k_ ∨ w.heap.size ≤ k_)) rfl rfl ?aF ?aO ?aB ?aS ?aL ?_; (case aB => exact (by repeat (first | (with_reducible first | exact HB.out | apply below_alloc | apply pw_below_drewN | apply below_drew1) | exact HB.out))); (case aF => exact (fun k_ hk => (.inr (Nat.le_trans (by first | exact HK.out.1 | exact (show Kept w _ (fun k_ => P0_ k_) from by repeat (first | (with_reducible first | exact HK.out | apply Kept.alloc | apply Kept.drewN | apply Kept.drew) | exact HK.out)).1) hk)))); (case aO => exact (by (with_reducible repeat (first | apply Kd.R_alloc | apply Kd.R_drewN | apply Kd.R_drew)); exact HO0.out)); (case aS => exact (below_size (by repeat (first | (with_reducible first | exact HB.out | apply below_alloc | apply pw_below_drewN | apply below_drew1) | exact HB.out)))); (case aL => have := LMc4.out; omega); intro v142 w6 ho hb hg hat; rw [← Ny141.out] at ho; have n0_ := Aside0.mk (hb); have n1_ := Aside0.mk (Kept.of_grown (S := (fun k_ => P0_ k_)) hg (by repeat (first | (with_reducible first | exact HK.out | apply Kept.alloc | apply Kept.drewN | apply Kept.drew) | exact HK.out)) (fun k_ e_ => (HO0.out.1 k_ e_))); have n2_ := Aside0.mk (ho); clear HB; clear HK; clear HO0; have HB := n0_; have HK := n1_; have HO143 := n2_; clear n0_ n1_ n2_; clear ho hb hg hat) | (at_builtin; refine app_str_at (w0 := w0) w0.heap.size rfl (.tmp 10) _ 30 9 rfl Tryz.underlying30 Tryz.underlying9 info5 v142 y141 q144 (fun k_ => (P0_ k_ ∨ w.heap.size ≤ k_)) rfl rfl ?aF ?aO ?aB ?aS ?aL ?_; (case aB => exact (by repeat (first | (with_reducible first | exact HB.out | apply below_alloc | apply pw_below_drewN | apply below_drew1) | exact HB.out))); (case aF => exact (fun k_ hk => (.inr (Nat.le_trans (by first | exact HK.out.1 | exact (show Kept w _ (fun k_ => P0_ k_) from by repeat (first | (with_reducible first | exact HK.out | apply Kept.alloc | apply Kept.drewN | apply Kept.drew) | exact HK.out)).1) hk)))); (case aO => exact (by (with_reducible repeat (first | apply Kd.R_alloc | apply Kd.R_drewN | apply Kd.R_drew)); exact HO143.out)); (case aS => exact (below_size (by repeat (first | (with_reducible first | exact HB.out | apply below_alloc | apply pw_below_drewN | apply below_drew1) | exact HB.out)))); (case aL => have := LMc5.out; omega); intro v146 w7 ho hb hg hat; rw [← Ny145.out] at ho; have n0_ := Aside0.mk (hb); have n1_ := Aside0.mk (Kept.of_grown (S := (fun k_ => P0_ k_)) hg (by repeat (first | (with_reducible first | exact HK.out | apply Kept.alloc | apply Kept.drewN | apply Kept.drew) | exact HK.out)) (fun k_ e_ => (HO143.out.1 k_ e_))); have n2_ := Aside0.mk (ho); clear HB; clear HK; clear HO143; have HB := n0_; have HK := n1_; have HO147 := n2_; clear n0_ n1_ n2_; clear ho hb hg hat))
      go_ret
      exact ⟨_, by first | rfl | (simp [errW_none, errW_some] <;> rfl) | (simp [*, errW_none, errW_some] <;> rfl), by (with_reducible repeat (first | apply Kd.R_alloc | apply Kd.R_drewN | apply Kd.R_drew)); exact HO147.out, by repeat (first | (with_reducible first | exact HB.out | apply below_alloc | apply pw_below_drewN | apply below_drew1) | exact HB.out), by repeat (first | (with_reducible first | exact HK.out | apply Kept.alloc | apply Kept.drewN | apply Kept.drew) | exact HK.out)⟩
    · rw [if_neg c5] at H
      exact absurd H (by simp)
  · rw [if_neg c4] at H
    exact absurd H (by simp)

/-! ### geom_appendWKTEmpty: function 115 -/
def geom_appendWKTEmpty.f (l0 : List Int) : Option (List Int) := if (l0.length : Int) > 0 then (if 0 ≤ (wrap64 ((l0.length : Int) - 1)) then (if (wrap64 ((l0.length : Int) - 1)) < (l0.length : Int) then (if (rd l0 (wrap64 ((l0.length : Int) - 1))) = 40 then (if l0.length + 5 < 140737488355328 then (some (l0 ++ bytesOf (⟨#[69, 77, 80, 84, 89]⟩ : ByteArray))) else (none)) else (if (rd l0 (wrap64 ((l0.length : Int) - 1))) = 44 then (if l0.length + 5 < 140737488355328 then (some (l0 ++ bytesOf (⟨#[69, 77, 80, 84, 89]⟩ : ByteArray))) else (none)) else (if (rd l0 (wrap64 ((l0.length : Int) - 1))) = 32 then (if l0.length + 5 < 140737488355328 then (some (l0 ++ bytesOf (⟨#[69, 77, 80, 84, 89]⟩ : ByteArray))) else (none)) else (if l0.length < 140737488355328 then ((some (l0 ++ [32] : List Int)).bind fun y158 => (if y158.length + 5 < 140737488355328 then (some (y158 ++ bytesOf (⟨#[69, 77, 80, 84, 89]⟩ : ByteArray))) else (none))) else (none))))) else (none)) else (none)) else (if l0.length + 5 < 140737488355328 then (some (l0 ++ bytesOf (⟨#[69, 77, 80, 84, 89]⟩ : ByteArray))) else (none))
set_option maxHeartbeats 8000000 in
set_option maxRecDepth 100000 in
theorem geom_appendWKTEmpty.calls (P0_ : Nat → Prop) (u9000_ : Value) (l0 : List Int) (r : List Int) (w0 w : World) (hB : Below w0.heap.size w0 w) (ho0 : Kd.R (Kd.int .u8) 5 w w0.heap.size P0_ u9000_ l0) (h : geom_appendWKTEmpty.f l0 = some r) :
    Calls Tryz.prog 115 #[u9000_] w fun e w' => ∃ v0_ : Value, e = .returned (v0_) ∧ Kd.R (Kd.int .u8) 5 w' w0.heap.size (fun k_ => (P0_ k_ ∨ w.heap.size ≤ k_)) v0_ r ∧ Below w0.heap.size w0 w' ∧ Kept w w' (fun k_ => P0_ k_) := by
  have HO0 := Aside0.mk (show Kd.R (Kd.int .u8) 5 w w0.heap.size (fun k_ => (P0_ k_ ∨ w.heap.size ≤ k_)) u9000_ l0 from Kd.R_mono ho0 (fun k_ hk => (.inl hk)))
  have HK := Aside0.mk (Kept.refl w (fun k_ => P0_ k_))
  have HW0 := Aside0.mk hB.size
  have HB := Aside0.mk hB
  clear hB
  have H : (if (l0.length : Int) > 0 then (if 0 ≤ (wrap64 ((l0.length : Int) - 1)) then (if (wrap64 ((l0.length : Int) - 1)) < (l0.length : Int) then (if (rd l0 (wrap64 ((l0.length : Int) - 1))) = 40 then (if l0.length + 5 < 140737488355328 then (some (l0 ++ bytesOf (⟨#[69, 77, 80, 84, 89]⟩ : ByteArray))) else (none)) else (if (rd l0 (wrap64 ((l0.length : Int) - 1))) = 44 then (if l0.length + 5 < 140737488355328 then (some (l0 ++ bytesOf (⟨#[69, 77, 80, 84, 89]⟩ : ByteArray))) else (none)) else (if (rd l0 (wrap64 ((l0.length : Int) - 1))) = 32 then (if l0.length + 5 < 140737488355328 then (some (l0 ++ bytesOf (⟨#[69, 77, 80, 84, 89]⟩ : ByteArray))) else (none)) else (if l0.length < 140737488355328 then ((some (l0 ++ [32] : List Int)).bind fun y158 => (if y158.length + 5 < 140737488355328 then (some (y158 ++ bytesOf (⟨#[69, 77, 80, 84, 89]⟩ : ByteArray))) else (none))) else (none))))) else (none)) else (none)) else (if l0.length + 5 < 140737488355328 then (some (l0 ++ bytesOf (⟨#[69, 77, 80, 84, 89]⟩ : ByteArray))) else (none))) = some r := h
  clear h
  by_cases c2 : (l0.length : Int) > 0
  · rw [if_pos c2] at H
    have c2b0 : decide (0 < (l0.length : Int)) = true := decide_eq_true c2
    have c2b1 : decide (0 < l0.length) = true := decide_eq_true (by omega)
    clear c2
    obtain ⟨ji3, hji3⟩ : ∃ j_ : Int, (wrap64 ((l0.length : Int) - 1)) = j_ := ⟨_, rfl⟩
    replace H : (if 0 ≤ (ji3) then (if (ji3) < (l0.length : Int) then (if (rd l0 (ji3)) = 40 then (if l0.length + 5 < 140737488355328 then (some (l0 ++ bytesOf (⟨#[69, 77, 80, 84, 89]⟩ : ByteArray))) else (none)) else (if (rd l0 (ji3)) = 44 then (if l0.length + 5 < 140737488355328 then (some (l0 ++ bytesOf (⟨#[69, 77, 80, 84, 89]⟩ : ByteArray))) else (none)) else (if (rd l0 (ji3)) = 32 then (if l0.length + 5 < 140737488355328 then (some (l0 ++ bytesOf (⟨#[69, 77, 80, 84, 89]⟩ : ByteArray))) else (none)) else (if l0.length < 140737488355328 then ((some (l0 ++ [32] : List Int)).bind fun y158 => (if y158.length + 5 < 140737488355328 then (some (y158 ++ bytesOf (⟨#[69, 77, 80, 84, 89]⟩ : ByteArray))) else (none))) else (none))))) else (none)) else (none)) = some r := by first | (rw [hji3] at H; exact H) | (simp only [hji3] at H ⊢; exact H)
    have hji3w : (IntKind.i64.wrap ((l0.length : Int) - 1)) = ji3 := (i64_w _).trans hji3
    by_cases c4 : 0 ≤ (ji3)
    · rw [if_pos c4] at H
      have c4b0 : decide (0 ≤ (ji3)) = true := decide_eq_true c4
      clear c4
      by_cases c5 : (ji3) < (l0.length : Int)
      · rw [if_pos c5] at H
        have c5b0 : decide ((ji3) < (l0.length : Int)) = true := decide_eq_true c5
        clear c5
        by_cases c6 : (rd l0 (ji3)) = 40
        · rw [if_pos c6] at H
          have c6b0 : ((rd l0 (ji3)) == 40) = true := beq_iff_eq.mpr c6
          have c6b1 : ((rd l0 (ji3)) != 40) = false := bne_eq_false_iff_eq.mpr c6
          clear c6
          by_cases c7 : l0.length + 5 < 140737488355328
          · rw [if_pos c7] at H
            have LMc7 := Aside0.mk c7
            clear c7
            obtain ⟨y149, hy149⟩ : ∃ y_ : List Int, y_ = (l0 ++ bytesOf (⟨#[69, 77, 80, 84, 89]⟩ : ByteArray)) := ⟨_, rfl⟩
            replace H : (some y149) = some r := by first | (rw [hy149]; with_reducible exact H) | (have H2_ := (Option.bind_some _ _).symm.trans H; rw [hy149]; with_reducible exact H2_) | (have H2_ := (Option.bind_some _ _).symm.trans H; with_reducible exact H2_) | with_reducible exact H | (rw [hy149]; exact H) | exact H
            have Ny149 := Aside0.mk hy149
            clear hy149
            obtain rfl := Option.some.inj H
            obtain ⟨Ao8, co8, eo8⟩ := Kd.R_slice HO0.out
            subst eo8
            have p148 : 0 ≤ ((ji3) : Int) := of_decide_eq_true (by first | (with_reducible assumption) | assumption)
            have q148 : (ji3) < (l0.length : Int) := of_decide_eq_true (by first | (with_reducible assumption) | assumption)
            obtain ⟨ad148, e148, hx148_0⟩ := Kd.at_int (Kd.R_reads' HO0.out).2.2 (ji3) p148 q148
            cases e148
            replace p148 := eq_true p148
            replace q148 := eq_true q148
            go_enter Tryz.func115, Tryz.ntmps115
            go_wp2_with (first | (at_builtin; refine app_str_at (w0 := w0) w0.heap.size rfl (.tmp 19) _ 30 9 rfl Tryz.underlying30 Tryz.underlying9 info5 (.slice (some ad148) l0.length co8) l0 (⟨#[69, 77, 80, 84, 89]⟩ : ByteArray) (fun k_ => (P0_ k_ ∨ w.heap.size ≤ k_)) rfl rfl ?aF ?aO ?aB ?aS ?aL ?_; (case aB => exact (by repeat (first | (with_reducible first | exact HB.out | apply below_alloc | apply pw_below_drewN | apply below_drew1) | exact HB.out))); (case aF => exact (fun k_ hk => (.inr (Nat.le_trans (by first | exact HK.out.1 | exact (show Kept w _ (fun k_ => P0_ k_) from by repeat (first | (with_reducible first | exact HK.out | apply Kept.alloc | apply Kept.drewN | apply Kept.drew) | exact HK.out)).1) hk)))); (case aO => exact (by (with_reducible repeat (first | apply Kd.R_alloc | apply Kd.R_drewN | apply Kd.R_drew)); exact HO0.out)); (case aS => exact (below_size (by repeat (first | (with_reducible first | exact HB.out | apply below_alloc | apply pw_below_drewN | apply below_drew1) | exact HB.out)))); (case aL => have hz_ : (⟨#[69, 77, 80, 84, 89]⟩ : ByteArray).size = 5 := rfl; have := LMc7.out; omega); intro v150 w9 ho hb hg hat; rw [← Ny149.out] at ho; have n0_ := Aside0.mk (hb); have n1_ := Aside0.mk (Kept.of_grown (S := (fun k_ => P0_ k_)) hg (by repeat (first | (with_reducible first | exact HK.out | apply Kept.alloc | apply Kept.drewN | apply Kept.drew) | exact HK.out)) (fun k_ e_ => (HO0.out.1 k_ e_))); have n2_ := Aside0.mk (ho); clear HB; clear HK; clear HO0; have HB := n0_; have HK := n1_; have HO151 := n2_; clear n0_ n1_ n2_; clear ho hb hg hat))
            go_ret
            exact ⟨_, by first | rfl | (simp [errW_none, errW_some] <;> rfl) | (simp only [← hji3]; first | rfl | (simp [errW_none, errW_some] <;> rfl)) | (simp [*, errW_none, errW_some] <;> rfl), by (with_reducible repeat (first | apply Kd.R_alloc | apply Kd.R_drewN | apply Kd.R_drew)); exact HO151.out, by repeat (first | (with_reducible first | exact HB.out | apply below_alloc | apply pw_below_drewN | apply below_drew1) | exact HB.out), by repeat (first | (with_reducible first | exact HK.out | apply Kept.alloc | apply Kept.drewN | apply Kept.drew) | exact HK.out)⟩
          · rw [if_neg c7] at H
            exact absurd H (by simp)
        · rw [if_neg c6] at H
          have c6b0 : ((rd l0 (ji3)) == 40) = false := beq_eq_false_iff_ne.mpr c6
          have c6b1 : ((rd l0 (ji3)) != 40) = true := bne_iff_ne.mpr c6
          by_cases c10 : (rd l0 (ji3)) = 44
          · rw [if_pos c10] at H
            have c10b0 : ((rd l0 (ji3)) == 44) = true := beq_iff_eq.mpr c10
            have c10b1 : ((rd l0 (ji3)) != 44) = false := bne_eq_false_iff_eq.mpr c10
            clear c10
            by_cases c11 : l0.length + 5 < 140737488355328
            · rw [if_pos c11] at H
              have LMc11 := Aside0.mk c11
              clear c11
              obtain ⟨y152, hy152⟩ : ∃ y_ : List Int, y_ = (l0 ++ bytesOf (⟨#[69, 77, 80, 84, 89]⟩ : ByteArray)) := ⟨_, rfl⟩
              replace H : (some y152) = some r := by first | (rw [hy152]; with_reducible exact H) | (have H2_ := (Option.bind_some _ _).symm.trans H; rw [hy152]; with_reducible exact H2_) | (have H2_ := (Option.bind_some _ _).symm.trans H; with_reducible exact H2_) | with_reducible exact H | (rw [hy152]; exact H) | exact H
              have Ny152 := Aside0.mk hy152
              clear hy152
              obtain rfl := Option.some.inj H
              obtain ⟨Ao12, co12, eo12⟩ := Kd.R_slice HO0.out
              subst eo12
              have p148 : 0 ≤ ((ji3) : Int) := of_decide_eq_true (by first | (with_reducible assumption) | assumption)
              have q148 : (ji3) < (l0.length : Int) := of_decide_eq_true (by first | (with_reducible assumption) | assumption)
              obtain ⟨ad148, e148, hx148_0⟩ := Kd.at_int (Kd.R_reads' HO0.out).2.2 (ji3) p148 q148
              cases e148
              replace p148 := eq_true p148
              replace q148 := eq_true q148
              go_enter Tryz.func115, Tryz.ntmps115
              go_wp2_with (first | (at_builtin; refine app_str_at (w0 := w0) w0.heap.size rfl (.tmp 19) _ 30 9 rfl Tryz.underlying30 Tryz.underlying9 info5 (.slice (some ad148) l0.length co12) l0 (⟨#[69, 77, 80, 84, 89]⟩ : ByteArray) (fun k_ => (P0_ k_ ∨ w.heap.size ≤ k_)) rfl rfl ?aF ?aO ?aB ?aS ?aL ?_; (case aB => exact (by repeat (first | (with_reducible first | exact HB.out | apply below_alloc | apply pw_below_drewN | apply below_drew1) | exact HB.out))); (case aF => exact (fun k_ hk => (.inr (Nat.le_trans (by first | exact HK.out.1 | exact (show Kept w _ (fun k_ => P0_ k_) from by repeat (first | (with_reducible first | exact HK.out | apply Kept.alloc | apply Kept.drewN | apply Kept.drew) | exact HK.out)).1) hk)))); (case aO => exact (by (with_reducible repeat (first | apply Kd.R_alloc | apply Kd.R_drewN | apply Kd.R_drew)); exact HO0.out)); (case aS => exact (below_size (by repeat (first | (with_reducible first | exact HB.out | apply below_alloc | apply pw_below_drewN | apply below_drew1) | exact HB.out)))); (case aL => have hz_ : (⟨#[69, 77, 80, 84, 89]⟩ : ByteArray).size = 5 := rfl; have := LMc11.out; omega); intro v153 w13 ho hb hg hat; rw [← Ny152.out] at ho; have n0_ := Aside0.mk (hb); have n1_ := Aside0.mk (Kept.of_grown (S := (fun k_ => P0_ k_)) hg (by repeat (first | (with_reducible first | exact HK.out | apply Kept.alloc | apply Kept.drewN | apply Kept.drew) | exact HK.out)) (fun k_ e_ => (HO0.out.1 k_ e_))); have n2_ := Aside0.mk (ho); clear HB; clear HK; clear HO0; have HB := n0_; have HK := n1_; have HO154 := n2_; clear n0_ n1_ n2_; clear ho hb hg hat))
              go_ret
              exact ⟨_, by first | rfl | (simp [errW_none, errW_some] <;> rfl) | (simp only [← hji3]; first | rfl | (simp [errW_none, errW_some] <;> rfl)) | (simp [*, errW_none, errW_some] <;> rfl), by (with_reducible repeat (first | apply Kd.R_alloc | apply Kd.R_drewN | apply Kd.R_drew)); exact HO154.out, by repeat (first | (with_reducible first | exact HB.out | apply below_alloc | apply pw_below_drewN | apply below_drew1) | exact HB.out), by repeat (first | (with_reducible first | exact HK.out | apply Kept.alloc | apply Kept.drewN | apply Kept.drew) | exact HK.out)⟩
            · rw [if_neg c11] at H
              exact absurd H (by simp)
          · rw [if_neg c10] at H
            have c10b0 : ((rd l0 (ji3)) == 44) = false := beq_eq_false_iff_ne.mpr c10
            have c10b1 : ((rd l0 (ji3)) != 44) = true := bne_iff_ne.mpr c10
            by_cases c14 : (rd l0 (ji3)) = 32
            · rw [if_pos c14] at H
              have c14b0 : ((rd l0 (ji3)) == 32) = true := beq_iff_eq.mpr c14
              have c14b1 : ((rd l0 (ji3)) != 32) = false := bne_eq_false_iff_eq.mpr c14
              clear c14
              by_cases c15 : l0.length + 5 < 140737488355328
              · rw [if_pos c15] at H
                have LMc15 := Aside0.mk c15
                clear c15
                obtain ⟨y155, hy155⟩ : ∃ y_ : List Int, y_ = (l0 ++ bytesOf (⟨#[69, 77, 80, 84, 89]⟩ : ByteArray)) := ⟨_, rfl⟩
                replace H : (some y155) = some r := by first | (rw [hy155]; with_reducible exact H) | (have H2_ := (Option.bind_some _ _).symm.trans H; rw [hy155]; with_reducible exact H2_) | (have H2_ := (Option.bind_some _ _).symm.trans H; with_reducible exact H2_) | with_reducible exact H | (rw [hy155]; exact H) | exact H
                have Ny155 := Aside0.mk hy155
                clear hy155
                obtain rfl := Option.some.inj H
                obtain ⟨Ao16, co16, eo16⟩ := Kd.R_slice HO0.out
                subst eo16
                have p148 : 0 ≤ ((ji3) : Int) := of_decide_eq_true (by first | (with_reducible assumption) | assumption)
                have q148 : (ji3) < (l0.length : Int) := of_decide_eq_true (by first | (with_reducible assumption) | assumption)
                obtain ⟨ad148, e148, hx148_0⟩ := Kd.at_int (Kd.R_reads' HO0.out).2.2 (ji3) p148 q148
                cases e148
                replace p148 := eq_true p148
                replace q148 := eq_true q148
                go_enter Tryz.func115, Tryz.ntmps115
                go_wp2_with (first | (at_builtin; refine app_str_at (w0 := w0) w0.heap.size rfl (.tmp 19) _ 30 9 rfl Tryz.underlying30 Tryz.underlying9 info5 (.slice (some ad148) l0.length co16) l0 (⟨#[69, 77, 80, 84, 89]⟩ : ByteArray) (fun k_ => (P0_ k_ ∨ w.heap.size ≤ k_)) rfl rfl ?aF ?aO ?aB ?aS ?aL ?_; (case aB => exact (by repeat (first | (with_reducible first | exact HB.out | apply below_alloc | apply pw_below_drewN | apply below_drew1) | exact HB.out))); (case aF => exact (fun k_ hk => (.inr (Nat.le_trans (by first | exact HK.out.1 | exact (show Kept w _ (fun k_ => P0_ k_) from by repeat (first | (with_reducible first | exact HK.out | apply Kept.alloc | apply Kept.drewN | apply Kept.drew) | exact HK.out)).1) hk)))); (case aO => exact (by (with_reducible repeat (first | apply Kd.R_alloc | apply Kd.R_drewN | apply Kd.R_drew)); exact HO0.out)); (case aS => exact (below_size (by repeat (first | (with_reducible first | exact HB.out | apply below_alloc | apply pw_below_drewN | apply below_drew1) | exact HB.out)))); (case aL => have hz_ : (⟨#[69, 77, 80, 84, 89]⟩ : ByteArray).size = 5 := rfl; have := LMc15.out; omega); intro v156 w17 ho hb hg hat; rw [← Ny155.out] at ho; have n0_ := Aside0.mk (hb); have n1_ := Aside0.mk (Kept.of_grown (S := (fun k_ => P0_ k_)) hg (by repeat (first | (with_reducible first | exact HK.out | apply Kept.alloc | apply Kept.drewN | apply Kept.drew) | exact HK.out)) (fun k_ e_ => (HO0.out.1 k_ e_))); have n2_ := Aside0.mk (ho); clear HB; clear HK; clear HO0; have HB := n0_; have HK := n1_; have HO157 := n2_; clear n0_ n1_ n2_; clear ho hb hg hat))
                go_ret
                exact ⟨_, by first | rfl | (simp [errW_none, errW_some] <;> rfl) | (simp only [← hji3]; first | rfl | (simp [errW_none, errW_some] <;> rfl)) | (simp [*, errW_none, errW_some] <;> rfl), by (with_reducible repeat (first | apply Kd.R_alloc | apply Kd.R_drewN | apply Kd.R_drew)); exact HO157.out, by repeat (first | (with_reducible first | exact HB.out | apply below_alloc | apply pw_below_drewN | apply below_drew1) | exact HB.out), by repeat (first | (with_reducible first | exact HK.out | apply Kept.alloc | apply Kept.drewN | apply Kept.drew) | exact HK.out)⟩
              · rw [if_neg c15] at H
                exact absurd H (by simp)
            · rw [if_neg c14] at H
              have c14b0 : ((rd l0 (ji3)) == 32) = false := beq_eq_false_iff_ne.mpr c14
              have c14b1 : ((rd l0 (ji3)) != 32) = true := bne_iff_ne.mpr c14
              by_cases c18 : l0.length < 140737488355328
              · rw [if_pos c18] at H
                have LMc18 := Aside0.mk c18
                clear c18
                obtain ⟨y158, hy158⟩ : ∃ y_ : List Int, y_ = (l0 ++ [32]) := ⟨_, rfl⟩
                replace H : (if y158.length + 5 < 140737488355328 then (some (y158 ++ bytesOf (⟨#[69, 77, 80, 84, 89]⟩ : ByteArray))) else (none)) = some r := by first | (rw [hy158]; with_reducible exact H) | (have H2_ := (Option.bind_some _ _).symm.trans H; rw [hy158]; with_reducible exact H2_) | (have H2_ := (Option.bind_some _ _).symm.trans H; with_reducible exact H2_) | with_reducible exact H | (rw [hy158]; exact H) | exact H
                have Ny158 := Aside0.mk hy158
                clear hy158
                by_cases c19 : y158.length + 5 < 140737488355328
                · rw [if_pos c19] at H
                  have LMc19 := Aside0.mk c19
                  clear c19
                  obtain ⟨y161, hy161⟩ : ∃ y_ : List Int, y_ = (y158 ++ bytesOf (⟨#[69, 77, 80, 84, 89]⟩ : ByteArray)) := ⟨_, rfl⟩
                  replace H : (some y161) = some r := by first | (rw [hy161]; with_reducible exact H) | (have H2_ := (Option.bind_some _ _).symm.trans H; rw [hy161]; with_reducible exact H2_) | (have H2_ := (Option.bind_some _ _).symm.trans H; with_reducible exact H2_) | with_reducible exact H | (rw [hy161]; exact H) | exact H
                  have Ny161 := Aside0.mk hy161
                  clear hy161
                  obtain rfl := Option.some.inj H
                  obtain ⟨Ao20, co20, eo20⟩ := Kd.R_slice HO0.out
                  subst eo20
                  have p148 : 0 ≤ ((ji3) : Int) := of_decide_eq_true (by first | (with_reducible assumption) | assumption)
                  have q148 : (ji3) < (l0.length : Int) := of_decide_eq_true (by first | (with_reducible assumption) | assumption)
                  obtain ⟨ad148, e148, hx148_0⟩ := Kd.at_int (Kd.R_reads' HO0.out).2.2 (ji3) p148 q148
                  cases e148
                  replace p148 := eq_true p148
                  replace q148 := eq_true q148
                  go_enter Tryz.func115, Tryz.ntmps115
                  go_wp2_with (first | ((with_reducible refine gate_builtin (b := .append) (xs := #[.tmp 12, .tmp 13]) rfl ?_); at_builtin; refine Kd.R_append (Kd.int .u8) (w0 := w0) w0.heap.size rfl (.tmp 12) (.tmp 13) 30 5 (.int .u8 0) 1 rfl Tryz.underlying30 info5 rfl (by decide) (by omega) (.slice (some ad148) l0.length co20) l0 32 [.int .u8 32] (fun k_ => (P0_ k_ ∨ w.heap.size ≤ k_)) (fun _ => False) rfl rfl ?aP (fun _ hk => hk.elim) ?aF ?aO ?aB ?aS ?aL ?_; (case aP => exact rfl); (case aB => exact (by repeat (first | (with_reducible first | exact HB.out | apply below_alloc | apply pw_below_drewN | apply below_drew1) | exact HB.out))); (case aF => exact (fun k_ hk => (.inr (Nat.le_trans (by first | exact HK.out.1 | exact (show Kept w _ (fun k_ => P0_ k_) from by repeat (first | (with_reducible first | exact HK.out | apply Kept.alloc | apply Kept.drewN | apply Kept.drew) | exact HK.out)).1) hk)))); (case aO => exact (by (with_reducible repeat (first | apply Kd.R_alloc | apply Kd.R_drewN | apply Kd.R_drew)); exact HO0.out)); (case aS => exact (below_size (by repeat (first | (with_reducible first | exact HB.out | apply below_alloc | apply pw_below_drewN | apply below_drew1) | exact HB.out)))); (case aL => have := LMc18.out; omega); intro v159 w21 ho hb hg hat; rw [← Ny158.out] at ho; have n0_ := Aside0.mk (hb); have n1_ := Aside0.mk (Kept.of_grown (S := (fun k_ => P0_ k_)) hg (by repeat (first | (with_reducible first | exact HK.out | apply Kept.alloc | apply Kept.drewN | apply Kept.drew) | exact HK.out)) (fun k_ e_ => (HO0.out.1 k_ e_))); have n2_ := Aside0.mk (ho); clear HB; clear HK; clear HO0; have HB := n0_; have HK := n1_; have HO160 := n2_; clear n0_ n1_ n2_; clear ho hb hg hat) | (at_builtin; refine app_str_at (w0 := w0) w0.heap.size rfl (.tmp 19) _ 30 9 rfl Tryz.underlying30 Tryz.underlying9 info5 v159 y158 (⟨#[69, 77, 80, 84, 89]⟩ : ByteArray) (fun k_ => (P0_ k_ ∨ w.heap.size ≤ k_)) rfl rfl ?aF ?aO ?aB ?aS ?aL ?_; (case aB => exact (by repeat (first | (with_reducible first | exact HB.out | apply below_alloc | apply pw_below_drewN | apply below_drew1) | exact HB.out))); (case aF => exact (fun k_ hk => (.inr (Nat.le_trans (by first | exact HK.out.1 | exact (show Kept w _ (fun k_ => P0_ k_) from by repeat (first | (with_reducible first | exact HK.out | apply Kept.alloc | apply Kept.drewN | apply Kept.drew) | exact HK.out)).1) hk)))); (case aO => exact (by (with_reducible repeat (first | apply Kd.R_alloc | apply Kd.R_drewN | apply Kd.R_drew)); exact HO160.out)); (case aS => exact (below_size (by repeat (first | (with_reducible first | exact HB.out | apply below_alloc | apply pw_below_drewN | apply below_drew1) | exact HB.out)))); (case aL => have hz_ : (⟨#[69, 77, 80, 84, 89]⟩ : ByteArray).size = 5 := rfl; have := LMc19.out; omega); intro v162 w22 ho hb hg hat; rw [← Ny161.out] at ho; have n0_ := Aside0.mk (hb); have n1_ := Aside0.mk (Kept.of_grown (S := (fun k_ => P0_ k_)) hg (by repeat (first | (with_reducible first | exact HK.out | apply Kept.alloc | apply Kept.drewN | apply Kept.drew) | exact HK.out)) (fun k_ e_ => (HO160.out.1 k_ e_))); have n2_ := Aside0.mk (ho); clear HB; clear HK; clear HO160; have HB := n0_; have HK := n1_; have HO163 := n2_; clear n0_ n1_ n2_; clear ho hb hg hat))
                  go_ret
                  exact ⟨_, by first | rfl | (simp [errW_none, errW_some] <;> rfl) | (simp only [← hji3]; first | rfl | (simp [errW_none, errW_some] <;> rfl)) | (simp [*, errW_none, errW_some] <;> rfl), by (with_reducible repeat (first | apply Kd.R_alloc | apply Kd.R_drewN | apply Kd.R_drew)); exact HO163.out, by repeat (first | (with_reducible first | exact HB.out | apply below_alloc | apply pw_below_drewN | apply below_drew1) | exact HB.out), by repeat (first | (with_reducible first | exact HK.out | apply Kept.alloc | apply Kept.drewN | apply Kept.drew) | exact HK.out)⟩
                · rw [if_neg c19] at H
                  exact absurd H (by simp)
              · rw [if_neg c18] at H
                exact absurd H (by simp)
      · rw [if_neg c5] at H
        exact absurd H (by simp)
    · rw [if_neg c4] at H
      exact absurd H (by simp)
  · rw [if_neg c2] at H
    have c2b0 : decide (0 < (l0.length : Int)) = false := decide_eq_false c2
    have c2b1 : decide (0 < l0.length) = false := decide_eq_false (by omega)
    clear c2
    by_cases c23 : l0.length + 5 < 140737488355328
    · rw [if_pos c23] at H
      have LMc23 := Aside0.mk c23
      clear c23
      obtain ⟨y164, hy164⟩ : ∃ y_ : List Int, y_ = (l0 ++ bytesOf (⟨#[69, 77, 80, 84, 89]⟩ : ByteArray)) := ⟨_, rfl⟩
      replace H : (some y164) = some r := by first | (rw [hy164]; with_reducible exact H) | (have H2_ := (Option.bind_some _ _).symm.trans H; rw [hy164]; with_reducible exact H2_) | (have H2_ := (Option.bind_some _ _).symm.trans H; with_reducible exact H2_) | with_reducible exact H | (rw [hy164]; exact H) | exact H
      have Ny164 := Aside0.mk hy164
      clear hy164
      obtain rfl := Option.some.inj H
      obtain ⟨Ao24, co24, eo24⟩ := Kd.R_slice HO0.out
      subst eo24
      go_enter Tryz.func115, Tryz.ntmps115
      go_wp2_with (first | (at_builtin; refine app_str_at (w0 := w0) w0.heap.size rfl (.tmp 19) _ 30 9 rfl Tryz.underlying30 Tryz.underlying9 info5 (.slice Ao24 l0.length co24) l0 (⟨#[69, 77, 80, 84, 89]⟩ : ByteArray) (fun k_ => (P0_ k_ ∨ w.heap.size ≤ k_)) rfl rfl ?aF ?aO ?aB ?aS ?aL ?_; (case aB => exact (by repeat (first | (with_reducible first | exact HB.out | apply below_alloc | apply pw_below_drewN | apply below_drew1) | exact HB.out))); (case aF => exact (fun k_ hk => (.inr (Nat.le_trans (by first | exact HK.out.1 | exact (show Kept w _ (fun k_ => P0_ k_) from by repeat (first | (with_reducible first | exact HK.out | apply Kept.alloc | apply Kept.drewN | apply Kept.drew) | exact HK.out)).1) hk)))); (case aO => exact (by (with_reducible repeat (first | apply Kd.R_alloc | apply Kd.R_drewN | apply Kd.R_drew)); exact HO0.out)); (case aS => exact (below_size (by repeat (first | (with_reducible first | exact HB.out | apply below_alloc | apply pw_below_drewN | apply below_drew1) | exact HB.out)))); (case aL => have hz_ : (⟨#[69, 77, 80, 84, 89]⟩ : ByteArray).size = 5 := rfl; have := LMc23.out; omega); intro v165 w25 ho hb hg hat; rw [← Ny164.out] at ho; have n0_ := Aside0.mk (hb); have n1_ := Aside0.mk (Kept.of_grown (S := (fun k_ => P0_ k_)) hg (by repeat (first | (with_reducible first | exact HK.out | apply Kept.alloc | apply Kept.drewN | apply Kept.drew) | exact HK.out)) (fun k_ e_ => (HO0.out.1 k_ e_))); have n2_ := Aside0.mk (ho); clear HB; clear HK; clear HO0; have HB := n0_; have HK := n1_; have HO166 := n2_; clear n0_ n1_ n2_; clear ho hb hg hat))
      go_ret
      exact ⟨_, by first | rfl | (simp [errW_none, errW_some] <;> rfl) | (simp [*, errW_none, errW_some] <;> rfl), by (with_reducible repeat (first | apply Kd.R_alloc | apply Kd.R_drewN | apply Kd.R_drew)); exact HO166.out, by repeat (first | (with_reducible first | exact HB.out | apply below_alloc | apply pw_below_drewN | apply below_drew1) | exact HB.out), by repeat (first | (with_reducible first | exact HK.out | apply Kept.alloc | apply Kept.drewN | apply Kept.drew) | exact HK.out)⟩
    · rw [if_neg c23] at H
      exact absurd H (by simp)

-- NOT PRINTED: function 147 (strconv_float32bits)

-- NOT PRINTED: function 148 (strconv_float64bits)

-- NOT PRINTED: function 152 (bits_Len64)

-- NOT PRINTED: function 156 (strconv_log10Pow2)

-- NOT PRINTED: function 174 (strconv_bool2_int)

-- NOT PRINTED: function 155 (strconv_numDigits)

-- NOT PRINTED: function 173 (strconv_formatBase10)

-- NOT PRINTED: function 183 (strconv_small)

-- NOT PRINTED: function 189 (strconv_isPowerOfTwo)

-- NOT PRINTED: function 191 (bits_TrailingZeros32)

-- NOT PRINTED: function 192 (bits_TrailingZeros64)

-- NOT PRINTED: function 190 (bits_TrailingZeros)

-- NOT PRINTED: function 184 (strconv_formatBits)

-- NOT PRINTED: function 162 (strconv_AppendUint)

-- NOT PRINTED: function 163 (strconv_AppendInt)

-- NOT PRINTED: function 149 (strconv_fmtB)

-- NOT PRINTED: function 164 (strconv_lower)

-- NOT PRINTED: function 150 (strconv_fmtX)

-- NOT PRINTED: function 151 (strconv_fmtEFG)

-- NOT PRINTED: function 165 (strconv_skewed)

-- NOT PRINTED: function 166 (strconv_prescale)

-- NOT PRINTED: function 167 (strconv_log2Pow10)

-- NOT PRINTED: function 185 (bits_Mul64)

-- NOT PRINTED: function 186 (strconv_bool2_uint64)

-- NOT PRINTED: function 168 (strconv_uscale)

-- NOT PRINTED: function 169 (strconv_unrounded_nudge)

-- NOT PRINTED: function 170 (strconv_unrounded_ceil)

-- NOT PRINTED: function 171 (strconv_unrounded_floor)

-- NOT PRINTED: function 172 (strconv_unrounded_round)

-- NOT PRINTED: function 153 (strconv_shortFloat_float32)

-- NOT PRINTED: function 154 (strconv_setDigits)

-- NOT PRINTED: function 175 (strconv_unmin)

-- NOT PRINTED: function 187 (strconv_unrounded)

-- NOT PRINTED: function 176 (strconv_unrounded_div)

-- NOT PRINTED: function 157 (strconv_fixedWidthFloat)

-- NOT PRINTED: function 177 (strconv_trim)

-- NOT PRINTED: function 158 (strconv_decimal_Assign)

-- NOT PRINTED: function 188 (strconv_prefixIsLessThan)

-- NOT PRINTED: function 178 (strconv_leftShift)

-- NOT PRINTED: function 179 (strconv_rightShift)

-- NOT PRINTED: function 159 (strconv_decimal_Shift)

-- NOT PRINTED: function 180 (strconv_shouldRoundUp)

-- NOT PRINTED: function 181 (strconv_decimal_RoundUp)

-- NOT PRINTED: function 182 (strconv_decimal_RoundDown)

-- NOT PRINTED: function 160 (strconv_decimal_Round)

-- NOT PRINTED: function 144 (strconv_ftoa32)

-- NOT PRINTED: function 161 (strconv_shortFloat_float64)

-- NOT PRINTED: function 145 (strconv_ftoa64)

-- NOT PRINTED: function 146 (strconv_AppendFloat_146)

-- NOT PRINTED: function 143 (strconv_AppendFloat_143)

/-! ### geom_CoordinatesType_Is3D: function 139 -/
def geom_CoordinatesType_Is3D.f (a0 : Int) : Option (Bool) := some ((Go.bits .and .u8 a0 1) != 0)
set_option maxHeartbeats 8000000 in
set_option maxRecDepth 100000 in
theorem geom_CoordinatesType_Is3D.calls (a0 : Int) (r : Bool) (w : World) (h : geom_CoordinatesType_Is3D.f a0 = some r) :
    Calls Tryz.prog 139 #[.int .u8 a0] w fun e w' => e = .returned (.bool r) ∧ Drawn0 w w' := by
  have H : (some ((Go.bits .and .u8 a0 1) != 0)) = some r := h
  clear h
  obtain rfl := Option.some.inj H
  go_enter Tryz.func139, Tryz.ntmps139
  go_wp2
  go_ret
  exact ⟨by first | rfl | (simp; done) | (simp [*]; done), by repeat (first | exact Drawn0.refl _ | apply Drawn0.step)⟩

/-! ### geom_CoordinatesType_IsMeasured: function 140 -/
def geom_CoordinatesType_IsMeasured.f (a0 : Int) : Option (Bool) := some ((Go.bits .and .u8 a0 2) != 0)
set_option maxHeartbeats 8000000 in
set_option maxRecDepth 100000 in
theorem geom_CoordinatesType_IsMeasured.calls (a0 : Int) (r : Bool) (w : World) (h : geom_CoordinatesType_IsMeasured.f a0 = some r) :
    Calls Tryz.prog 140 #[.int .u8 a0] w fun e w' => e = .returned (.bool r) ∧ Drawn0 w w' := by
  have H : (some ((Go.bits .and .u8 a0 2) != 0)) = some r := h
  clear h
  obtain rfl := Option.some.inj H
  go_enter Tryz.func140, Tryz.ntmps140
  go_wp2
  go_ret
  exact ⟨by first | rfl | (simp; done) | (simp [*]; done), by repeat (first | exact Drawn0.refl _ | apply Drawn0.step)⟩

/-! ### geom_appendWKTCoords: function 129 -/
mutual
def geom_appendWKTCoords.j0 : Nat → List Int → Bool → Nat → Nat → Nat → Nat → Int → Option (List Int)
  | 0, _, _, _, _, _, _, _ => none
  | k + 1, x0, x2, x168000, x168001, x168002, x168003, x168004 => (geom_appendFloat.f x0 x168000).bind fun t171 => (if t171.length < 140737488355328 then ((geom_appendFloat.f (t171 ++ [32]) x168001).bind fun t177 => ((geom_CoordinatesType_Is3D.f x168004).bind fun t180 => (if t180 = true then (if t177.length < 140737488355328 then ((geom_appendFloat.f (t177 ++ [32]) x168002).bind fun t184 => (geom_appendWKTCoords.j1 k t184 x2 x168000 x168001 x168002 x168003 x168004)) else (none)) else (geom_appendWKTCoords.j1 k t177 x2 x168000 x168001 x168002 x168003 x168004)))) else (none))
def geom_appendWKTCoords.j1 : Nat → List Int → Bool → Nat → Nat → Nat → Nat → Int → Option (List Int)
  | 0, _, _, _, _, _, _, _ => none
  | k + 1, x0, x2, x168000, x168001, x168002, x168003, x168004 => (geom_CoordinatesType_IsMeasured.f x168004).bind fun t187 => (if t187 = true then (if x0.length < 140737488355328 then ((geom_appendFloat.f (x0 ++ [32]) x168003).bind fun t191 => (if x2 = true then (if t191.length < 140737488355328 then (some (t191 ++ [41])) else (none)) else (some t191))) else (none)) else (if x2 = true then (if x0.length < 140737488355328 then (some (x0 ++ [41])) else (none)) else (some x0)))
end
def geom_appendWKTCoords.f (k : Nat) (l0 : List Int) (a1_0 : Nat) (a1_1 : Nat) (a1_2 : Nat) (a1_3 : Nat) (a1_4 : Int) (a2 : Bool) : Option (List Int) := if a2 = true then (if l0.length < 140737488355328 then (geom_appendWKTCoords.j0 k (l0 ++ [40]) a2 a1_0 a1_1 a1_2 a1_3 a1_4) else (none)) else (geom_appendWKTCoords.j0 k l0 a2 a1_0 a1_1 a1_2 a1_3 a1_4)
theorem geom_appendWKTCoords.mono_l : ∀ k, (∀ y0 y1 y2 y3 y4 y5 y6, LeO (geom_appendWKTCoords.j0 k y0 y1 y2 y3 y4 y5 y6) (geom_appendWKTCoords.j0 (k + 1) y0 y1 y2 y3 y4 y5 y6)) ∧ (∀ y0 y1 y2 y3 y4 y5 y6, LeO (geom_appendWKTCoords.j1 k y0 y1 y2 y3 y4 y5 y6) (geom_appendWKTCoords.j1 (k + 1) y0 y1 y2 y3 y4 y5 y6))
  | 0 => ⟨fun _ _ _ _ _ _ _ r h => by simp [geom_appendWKTCoords.j0] at h, fun _ _ _ _ _ _ _ r h => by simp [geom_appendWKTCoords.j1] at h⟩
  | k + 1 => by
    obtain ⟨ih0, ih1⟩ := geom_appendWKTCoords.mono_l k
    refine ⟨?_, ?_⟩
    · intro y0 y1 y2 y3 y4 y5 y6
      unfold geom_appendWKTCoords.j0
      repeat' first
      | (with_reducible exact ih0 _ _ _ _ _ _ _)
      | (with_reducible exact ih1 _ _ _ _ _ _ _)
      | (with_reducible exact LeO.refl _)
      | (with_reducible exact LeO.none _)
      | (with_reducible refine LeO.ite ?_ ?_)
      | (with_reducible refine LeO.bind ?_ (fun _ => ?_))
      | exact ih0 _ _ _ _ _ _ _
      | exact ih1 _ _ _ _ _ _ _
      | exact LeO.none _
      | refine LeO.ite ?_ ?_
      | refine LeO.bind ?_ (fun _ => ?_)
    · intro y0 y1 y2 y3 y4 y5 y6
      unfold geom_appendWKTCoords.j1
      repeat' first
      | (with_reducible exact ih0 _ _ _ _ _ _ _)
      | (with_reducible exact ih1 _ _ _ _ _ _ _)
      | (with_reducible exact LeO.refl _)
      | (with_reducible exact LeO.none _)
      | (with_reducible refine LeO.ite ?_ ?_)
      | (with_reducible refine LeO.bind ?_ (fun _ => ?_))
      | exact ih0 _ _ _ _ _ _ _
      | exact ih1 _ _ _ _ _ _ _
      | exact LeO.none _
      | refine LeO.ite ?_ ?_
      | refine LeO.bind ?_ (fun _ => ?_)
theorem geom_appendWKTCoords.mono : ∀ a0 a1 a2 a3 a4 a5 a6 k, LeO (geom_appendWKTCoords.f k a0 a1 a2 a3 a4 a5 a6) (geom_appendWKTCoords.f (k + 1) a0 a1 a2 a3 a4 a5 a6) := by
  intro a0 a1 a2 a3 a4 a5 a6 k
  obtain ⟨ih0, ih1⟩ := geom_appendWKTCoords.mono_l k
  unfold geom_appendWKTCoords.f
  repeat' first
      | (with_reducible exact ih0 _ _ _ _ _ _ _)
      | (with_reducible exact ih1 _ _ _ _ _ _ _)
      | (with_reducible exact LeO.refl _)
      | (with_reducible exact LeO.none _)
      | (with_reducible refine LeO.ite ?_ ?_)
      | (with_reducible refine LeO.bind ?_ (fun _ => ?_))
      | exact ih0 _ _ _ _ _ _ _
      | exact ih1 _ _ _ _ _ _ _
      | exact LeO.none _
      | refine LeO.ite ?_ ?_
      | refine LeO.bind ?_ (fun _ => ?_)
set_option maxHeartbeats 8000000 in
set_option maxRecDepth 100000 in
theorem geom_appendWKTCoords.calls (k : Nat) (P0_ : Nat → Prop) (u9000_ : Value) (l0 : List Int) (a1_0 : Nat) (a1_1 : Nat) (a1_2 : Nat) (a1_3 : Nat) (a1_4 : Int) (a2 : Bool) (r : List Int) (w0 w : World) (hB : Below w0.heap.size w0 w) (ho0 : Kd.R (Kd.int .u8) 5 w w0.heap.size P0_ u9000_ l0) (hG : Glob w0) (h : geom_appendWKTCoords.f k l0 a1_0 a1_1 a1_2 a1_3 a1_4 a2 = some r) :
    Calls Tryz.prog 129 #[u9000_, .agg #[.float .f64 a1_0, .float .f64 a1_1, .float .f64 a1_2, .float .f64 a1_3, .int .u8 a1_4], .bool a2] w fun e w' => ∃ v0_ : Value, e = .returned (v0_) ∧ Kd.R (Kd.int .u8) 5 w' w0.heap.size (fun k_ => (P0_ k_ ∨ w.heap.size ≤ k_)) v0_ r ∧ Below w0.heap.size w0 w' ∧ Kept w w' (fun k_ => P0_ k_) := by
  have hu50 := Tryz.underlying50
  have HO0 := Aside0.mk (show Kd.R (Kd.int .u8) 5 w w0.heap.size (fun k_ => (P0_ k_ ∨ w.heap.size ≤ k_)) u9000_ l0 from Kd.R_mono ho0 (fun k_ hk => (.inl hk)))
  have HK := Aside0.mk (Kept.refl w (fun k_ => P0_ k_))
  have HW0 := Aside0.mk hB.size
  have HB := Aside0.mk hB
  clear hB
  have H : (if a2 = true then (if l0.length < 140737488355328 then (geom_appendWKTCoords.j0 k (l0 ++ [40]) a2 a1_0 a1_1 a1_2 a1_3 a1_4) else (none)) else (geom_appendWKTCoords.j0 k l0 a2 a1_0 a1_1 a1_2 a1_3 a1_4)) = some r := h
  clear h
  have HC4 := Aside0.mk H
  clear H
  go_enter Tryz.func129, Tryz.ntmps129
  go_upto_if 7 with (first | ((with_reducible refine gate_dst (N := 4) rfl ?_); refine box_event ?hg (N := 4) ?hd (cs := #[.float .f64 a1_0, .float .f64 a1_1, .float .f64 a1_2, .float .f64 a1_3, .int .u8 a1_4]) (t := 50) ?hr ?_; (case hd => rfl); (case hg => rfl); (case hr => first | (go_simp; done) | (go_simp; rfl)); intro gb167 hg w5 hbox hb; have n0_ := Aside0.mk (Kd.R_below (by (with_reducible repeat (first | apply Kd.R_alloc | apply Kd.R_drewN | apply Kd.R_drew)); exact HO0.out) hb); have n1_ := Aside0.mk (Kept.below (S := (fun k_ => P0_ k_)) (by repeat (first | (with_reducible first | exact HK.out | apply Kept.alloc | apply Kept.drewN | apply Kept.drew) | exact HK.out)) hb); have n2_ := Aside0.mk (below_step (by repeat (first | (with_reducible first | exact HB.out | apply below_alloc | apply pw_below_drewN | apply below_drew1) | exact HB.out)) hb); have n3_ := Aside0.mk (hbox); have n4_ := Aside0.mk ((by rw [hg]; exact (by first | exact HK.out.1 | exact (show Kept w _ (fun k_ => P0_ k_) from by repeat (first | (with_reducible first | exact HK.out | apply Kept.alloc | apply Kept.drewN | apply Kept.drew) | exact HK.out)).1) : w.heap.size ≤ gb167)); have n5_ := Aside0.mk ((by rw [hg]; exact (below_size (by repeat (first | (with_reducible first | exact HB.out | apply below_alloc | apply pw_below_drewN | apply below_drew1) | exact HB.out))) : w0.heap.size ≤ gb167)); clear HO0; clear HK; clear HB; have HO0 := n0_; have HK := n1_; have HB := n2_; have BK167 := n3_; have GW167 := n4_; have GE167 := n5_; clear n0_ n1_ n2_ n3_ n4_ n5_; clear hb hbox hg))
  (try simp only [Act.put, List.setIfInBounds_toArray, List.set_cons_zero, List.set_cons_succ])
  go_cut [0] (fun v0 wc => ∃ (kq : Nat) (x0_3 : List Int), Aside0 (geom_appendWKTCoords.j0 kq x0_3 a2 a1_0 a1_1 a1_2 a1_3 a1_4 = some r) ∧ Aside0 (kq ≤ k) ∧ Aside0 (Kd.R (Kd.int .u8) 5 wc w0.heap.size (fun k_ => (P0_ k_ ∨ w.heap.size ≤ k_)) v0 x0_3) ∧ Aside0 (wc.heap[gb167]? = some (.cells #[.float .f64 a1_0, .float .f64 a1_1, .float .f64 a1_2, .float .f64 a1_3, .int .u8 a1_4] 50 (0, 0))) ∧ Aside0 (Kept w wc (fun k_ => P0_ k_)) ∧ Aside0 (Below w0.heap.size w0 wc))
  case first =>
    have H := HC4.out
    clear HC4
    by_cases c6 : a2 = true
    · subst c6
      have H1 : (if l0.length < 140737488355328 then (geom_appendWKTCoords.j0 k (l0 ++ [40]) true a1_0 a1_1 a1_2 a1_3 a1_4) else (none)) = some r := by rw [if_pos rfl] at H; exact H
      clear H
      have H := H1
      clear H1
      by_cases c7 : l0.length < 140737488355328
      · rw [if_pos c7] at H
        have LMc7 := Aside0.mk c7
        clear c7
        obtain ⟨y168, hy168⟩ : ∃ y_ : List Int, y_ = (l0 ++ [40]) := ⟨_, rfl⟩
        replace H : (geom_appendWKTCoords.j0 k y168 true a1_0 a1_1 a1_2 a1_3 a1_4) = some r := by first | (rw [hy168]; with_reducible exact H) | (have H2_ := (Option.bind_some _ _).symm.trans H; rw [hy168]; with_reducible exact H2_) | (have H2_ := (Option.bind_some _ _).symm.trans H; with_reducible exact H2_) | with_reducible exact H | (rw [hy168]; exact H) | exact H
        have Ny168 := Aside0.mk hy168
        clear hy168
        have H' := Aside0.mk H
        clear H
        go_wp2_with (first | ((with_reducible refine gate_builtin (b := .append) (xs := #[.tmp 8, .tmp 9]) rfl ?_); at_builtin; refine Kd.R_append (Kd.int .u8) (w0 := w0) w0.heap.size rfl (.tmp 8) (.tmp 9) 30 5 (.int .u8 0) 1 rfl Tryz.underlying30 info5 rfl (by decide) (by omega) u9000_ l0 40 [.int .u8 40] (fun k_ => (P0_ k_ ∨ w.heap.size ≤ k_)) (fun _ => False) rfl rfl ?aP (fun _ hk => hk.elim) ?aF ?aO ?aB ?aS ?aL ?_; (case aP => exact rfl); (case aB => exact (by repeat (first | (with_reducible first | exact HB.out | apply below_alloc | apply pw_below_drewN | apply below_drew1 | refine below_set ?_ GE167.out) | exact HB.out))); (case aF => exact (fun k_ hk => (.inr (Nat.le_trans (by first | exact HK.out.1 | exact (show Kept w _ (fun k_ => P0_ k_) from by repeat (first | (with_reducible first | exact HK.out | apply Kept.alloc | apply Kept.drewN | apply Kept.drew | refine Kept.setCell ?_ (.inr GW167.out) _) | exact HK.out)).1) hk)))); (case aO => exact (by (with_reducible repeat (first | apply Kd.R_alloc | apply Kd.R_drewN | apply Kd.R_drew)); exact HO0.out)); (case aS => exact (below_size (by repeat (first | (with_reducible first | exact HB.out | apply below_alloc | apply pw_below_drewN | apply below_drew1 | refine below_set ?_ GE167.out) | exact HB.out)))); (case aL => have := LMc7.out; omega); intro v169 w8 ho hb hg hat; rw [← Ny168.out] at ho; have n0_ := Aside0.mk (blk_grown (g := gb167) (o := .cells #[.float .f64 a1_0, .float .f64 a1_1, .float .f64 a1_2, .float .f64 a1_3, .int .u8 a1_4] 50 (0, 0)) (by (with_reducible repeat (first | refine blk_drewN ?_ _ | refine blk_drew ?_ | refine blk_alloc ?_ _)); exact BK167.out) hg (Kd.R_ne HO0.out BK167.out (by decide))); have n1_ := Aside0.mk (hb); have n2_ := Aside0.mk (Kept.of_grown (S := (fun k_ => P0_ k_)) hg (by repeat (first | (with_reducible first | exact HK.out | apply Kept.alloc | apply Kept.drewN | apply Kept.drew | refine Kept.setCell ?_ (.inr GW167.out) _) | exact HK.out)) (fun k_ e_ => (HO0.out.1 k_ e_))); have n3_ := Aside0.mk (ho); clear BK167; clear HB; clear HK; clear HO0; have BK167 := n0_; have HB := n1_; have HK := n2_; have HO170 := n3_; clear n0_ n1_ n2_ n3_; clear ho hb hg hat))
        go_meet
        case rel => exact ⟨_, (y168), H', ⟨by first | omega | exact Nat.le_refl _⟩, ⟨by (with_reducible repeat (first | apply Kd.R_alloc | apply Kd.R_drewN | apply Kd.R_drew)); exact HO170.out⟩, ⟨by (with_reducible repeat (first | refine blk_drewN ?_ _ | refine blk_drew ?_ | refine blk_alloc ?_ _)); exact BK167.out⟩, ⟨by repeat (first | (with_reducible first | exact HK.out | apply Kept.alloc | apply Kept.drewN | apply Kept.drew | refine Kept.setCell ?_ (.inr GW167.out) _) | exact HK.out)⟩, ⟨by repeat (first | (with_reducible first | exact HB.out | apply below_alloc | apply pw_below_drewN | apply below_drew1 | refine below_set ?_ GE167.out) | exact HB.out)⟩⟩
      · rw [if_neg c7] at H
        exact absurd H (by simp)
    · replace c6 := Bool.eq_false_iff.mpr c6
      subst c6
      have H1 : (geom_appendWKTCoords.j0 k l0 false a1_0 a1_1 a1_2 a1_3 a1_4) = some r := by rw [if_neg (show ¬ (false = true) by decide)] at H; exact H
      clear H
      have H := H1
      clear H1
      have H' := Aside0.mk H
      clear H
      go_wp2
      go_meet
      case rel => exact ⟨_, (l0), H', ⟨by first | omega | exact Nat.le_refl _⟩, ⟨by (with_reducible repeat (first | apply Kd.R_alloc | apply Kd.R_drewN | apply Kd.R_drew)); exact HO0.out⟩, ⟨by (with_reducible repeat (first | refine blk_drewN ?_ _ | refine blk_drew ?_ | refine blk_alloc ?_ _)); exact BK167.out⟩, ⟨by repeat (first | (with_reducible first | exact HK.out | apply Kept.alloc | apply Kept.drewN | apply Kept.drew | refine Kept.setCell ?_ (.inr GW167.out) _) | exact HK.out)⟩, ⟨by repeat (first | (with_reducible first | exact HB.out | apply below_alloc | apply pw_below_drewN | apply below_drew1 | refine below_set ?_ GE167.out) | exact HB.out)⟩⟩
  case rest =>
    clear HC4
    try clear c1
    try clear p2
    try clear c6
    try clear c7
    obtain ⟨kq, x0_3, HA, HJ3, HO_0, BK167, HK, HB⟩ := hcut
    cases kq with
    | zero => exact absurd HA.out (by simp [geom_appendWKTCoords.j0])
    | succ kj3 =>
      have H := HA.out
      clear HA
      simp only [geom_appendWKTCoords.j0] at H
      replace H := Option.bind_eq_some_iff.mp H
      obtain ⟨t171, A90, H⟩ := H
      replace H : (if t171.length < 140737488355328 then ((geom_appendFloat.f (t171 ++ [32]) a1_1).bind fun t177 => ((geom_CoordinatesType_Is3D.f a1_4).bind fun t180 => (if t180 = true then (if t177.length < 140737488355328 then ((geom_appendFloat.f (t177 ++ [32]) a1_2).bind fun t184 => (geom_appendWKTCoords.j1 kj3 t184 a2 a1_0 a1_1 a1_2 a1_3 a1_4)) else (none)) else (geom_appendWKTCoords.j1 kj3 t177 a2 a1_0 a1_1 a1_2 a1_3 a1_4)))) else (none)) = some r := H
      have A9 := Aside0.mk A90
      clear A90
      by_cases c10 : t171.length < 140737488355328
      · rw [if_pos c10] at H
        have LMc10 := Aside0.mk c10
        clear c10
        obtain ⟨y174, hy174⟩ : ∃ y_ : List Int, y_ = (t171 ++ [32]) := ⟨_, rfl⟩
        replace H : ((geom_appendFloat.f y174 a1_1).bind fun t177 => ((geom_CoordinatesType_Is3D.f a1_4).bind fun t180 => (if t180 = true then (if t177.length < 140737488355328 then ((geom_appendFloat.f (t177 ++ [32]) a1_2).bind fun t184 => (geom_appendWKTCoords.j1 kj3 t184 a2 a1_0 a1_1 a1_2 a1_3 a1_4)) else (none)) else (geom_appendWKTCoords.j1 kj3 t177 a2 a1_0 a1_1 a1_2 a1_3 a1_4)))) = some r := by first | (rw [hy174]; with_reducible exact H) | (have H2_ := (Option.bind_some _ _).symm.trans H; rw [hy174]; with_reducible exact H2_) | (have H2_ := (Option.bind_some _ _).symm.trans H; with_reducible exact H2_) | with_reducible exact H | (rw [hy174]; exact H) | exact H
        have Ny174 := Aside0.mk hy174
        clear hy174
        replace H := Option.bind_eq_some_iff.mp H
        obtain ⟨t177, A110, H⟩ := H
        replace H : ((geom_CoordinatesType_Is3D.f a1_4).bind fun t180 => (if t180 = true then (if t177.length < 140737488355328 then ((geom_appendFloat.f (t177 ++ [32]) a1_2).bind fun t184 => (geom_appendWKTCoords.j1 kj3 t184 a2 a1_0 a1_1 a1_2 a1_3 a1_4)) else (none)) else (geom_appendWKTCoords.j1 kj3 t177 a2 a1_0 a1_1 a1_2 a1_3 a1_4))) = some r := H
        have A11 := Aside0.mk A110
        clear A110
        replace H := Option.bind_eq_some_iff.mp H
        obtain ⟨t180, A120, H⟩ := H
        replace H : (if t180 = true then (if t177.length < 140737488355328 then ((geom_appendFloat.f (t177 ++ [32]) a1_2).bind fun t184 => (geom_appendWKTCoords.j1 kj3 t184 a2 a1_0 a1_1 a1_2 a1_3 a1_4)) else (none)) else (geom_appendWKTCoords.j1 kj3 t177 a2 a1_0 a1_1 a1_2 a1_3 a1_4)) = some r := H
        have A12 := Aside0.mk A120
        clear A120
        have HC13 := Aside0.mk H
        clear H
        have hcz14_0 : wc.cell? ⟨gb167, 0, none⟩ = some (.float .f64 a1_0) := (blk_cell BK167.out 0).trans rfl
        have hcz14_1 : wc.cell? ⟨gb167, 1, none⟩ = some (.float .f64 a1_1) := (blk_cell BK167.out 1).trans rfl
        have hcz14_2 : wc.cell? ⟨gb167, 2, none⟩ = some (.float .f64 a1_2) := (blk_cell BK167.out 2).trans rfl
        have hcz14_3 : wc.cell? ⟨gb167, 3, none⟩ = some (.float .f64 a1_3) := (blk_cell BK167.out 3).trans rfl
        have hcz14_4 : wc.cell? ⟨gb167, 4, none⟩ = some (.int .u8 a1_4) := (blk_cell BK167.out 4).trans rfl
        have hfz14_0 := blk_frozen BK167.out 0
        have hfz14_1 := blk_frozen BK167.out 1
        have hfz14_2 := blk_frozen BK167.out 2
        have hfz14_3 := blk_frozen BK167.out 3
        have hfz14_4 := blk_frozen BK167.out 4
        obtain ⟨Ao15, co15, eo15⟩ := Kd.R_slice HO_0.out
        subst eo15
        go_upto_if 26 with (first | ((with_reducible refine gate_callee (f := 138) rfl ?_); refine goesL_ (some 15) rfl rfl Tryz.func138 (by kernel_rfl) rfl #[.slice Ao15 x0_3.length co15, .float .f64 a1_0] rfl (by (try simp only [List.map_toArray, List.map_cons, List.map_nil]); first | done | rfl | (simp only [List.length_drop, List.length_take]; rfl)) ?_; (with_reducible refine (geom_appendFloat.calls (fun k_ => some k_ = (.slice Ao15 x0_3.length co15 : Value).ownBlock) (.slice Ao15 x0_3.length co15) x0_3 a1_0 t171 w0 _ ?side1 ?side2 ?side3 A9.out).mono ?_); (case side1 => repeat (first | (with_reducible first | exact HB.out | apply below_alloc | apply pw_below_drewN | apply below_drew1 | refine below_set ?_ GE167.out) | exact HB.out)); (case side2 => exact Kd.R_tight rfl HO_0.out); (case side3 => exact hG); rintro e w16 ⟨v172, rfl, ho0, hb, hkp⟩; refine ⟨_, rfl, ?_⟩; have n0_ := Aside0.mk (blk_kept (by (with_reducible repeat (first | refine blk_drewN ?_ _ | refine blk_drew ?_ | refine blk_alloc ?_ _)); exact BK167.out) hkp (fun hs_ => (fun e_ => (Kd.R_ne HO_0.out BK167.out (by decide)) e_) hs_)); have n1_ := Aside0.mk (Kd.R_mono (ok' := fun k_ => (P0_ k_ ∨ w.heap.size ≤ k_)) ho0 (fun k_ hk_ => Or.elim hk_ (fun hs_ => (HO_0.out.1 k_ (hs_).symm)) (fun hn_ => (.inr (Nat.le_trans (by first | exact HK.out.1 | exact (show Kept w _ (fun k_ => P0_ k_) from by repeat (first | (with_reducible first | exact HK.out | apply Kept.alloc | apply Kept.drewN | apply Kept.drew | refine Kept.setCell ?_ (.inr GW167.out) _) | exact HK.out)).1) hn_))))); have n2_ := Aside0.mk (Kept.then_ (S := (fun k_ => P0_ k_)) (by repeat (first | (with_reducible first | exact HK.out | apply Kept.alloc | apply Kept.drewN | apply Kept.drew | refine Kept.setCell ?_ (.inr GW167.out) _) | exact HK.out)) hkp (fun k_ hs_ => (fun e_ => (HO_0.out.1 k_ e_.symm)) hs_)); have n3_ := Aside0.mk (hb); clear BK167; clear HK; clear HB; clear HO_0; have BK167 := n0_; have HO173 := n1_; have HK := n2_; have HB := n3_; clear n0_ n1_ n2_ n3_; (try clear hb); (try clear hkp); (try clear ho0)) | ((with_reducible refine gate_builtin (b := .append) (xs := #[.tmp 16, .tmp 17]) rfl ?_); at_builtin; refine Kd.R_append (Kd.int .u8) (w0 := w0) w0.heap.size rfl (.tmp 16) (.tmp 17) 30 5 (.int .u8 0) 1 rfl Tryz.underlying30 info5 rfl (by decide) (by omega) v172 t171 32 [.int .u8 32] (fun k_ => (P0_ k_ ∨ w.heap.size ≤ k_)) (fun _ => False) rfl rfl ?aP (fun _ hk => hk.elim) ?aF ?aO ?aB ?aS ?aL ?_; (case aP => exact rfl); (case aB => exact (by repeat (first | (with_reducible first | exact HB.out | apply below_alloc | apply pw_below_drewN | apply below_drew1 | refine below_set ?_ GE167.out) | exact HB.out))); (case aF => exact (fun k_ hk => (.inr (Nat.le_trans (by first | exact HK.out.1 | exact (show Kept w _ (fun k_ => P0_ k_) from by repeat (first | (with_reducible first | exact HK.out | apply Kept.alloc | apply Kept.drewN | apply Kept.drew | refine Kept.setCell ?_ (.inr GW167.out) _) | exact HK.out)).1) hk)))); (case aO => exact (by (with_reducible repeat (first | apply Kd.R_alloc | apply Kd.R_drewN | apply Kd.R_drew)); exact HO173.out)); (case aS => exact (below_size (by repeat (first | (with_reducible first | exact HB.out | apply below_alloc | apply pw_below_drewN | apply below_drew1 | refine below_set ?_ GE167.out) | exact HB.out)))); (case aL => have := LMc10.out; omega); intro v175 w17 ho hb hg hat; rw [← Ny174.out] at ho; have n0_ := Aside0.mk (blk_grown (g := gb167) (o := .cells #[.float .f64 a1_0, .float .f64 a1_1, .float .f64 a1_2, .float .f64 a1_3, .int .u8 a1_4] 50 (0, 0)) (by (with_reducible repeat (first | refine blk_drewN ?_ _ | refine blk_drew ?_ | refine blk_alloc ?_ _)); exact BK167.out) hg (Kd.R_ne HO173.out BK167.out (by decide))); have n1_ := Aside0.mk (hb); have n2_ := Aside0.mk (Kept.of_grown (S := (fun k_ => P0_ k_)) hg (by repeat (first | (with_reducible first | exact HK.out | apply Kept.alloc | apply Kept.drewN | apply Kept.drew | refine Kept.setCell ?_ (.inr GW167.out) _) | exact HK.out)) (fun k_ e_ => (HO173.out.1 k_ e_))); have n3_ := Aside0.mk (ho); clear BK167; clear HB; clear HK; clear HO173; have BK167 := n0_; have HB := n1_; have HK := n2_; have HO176 := n3_; clear n0_ n1_ n2_ n3_; clear ho hb hg hat; have hcz18_0 : w17.cell? ⟨gb167, 0, none⟩ = some (.float .f64 a1_0) := (blk_cell BK167.out 0).trans rfl; have hcz18_1 : w17.cell? ⟨gb167, 1, none⟩ = some (.float .f64 a1_1) := (blk_cell BK167.out 1).trans rfl; have hcz18_2 : w17.cell? ⟨gb167, 2, none⟩ = some (.float .f64 a1_2) := (blk_cell BK167.out 2).trans rfl; have hcz18_3 : w17.cell? ⟨gb167, 3, none⟩ = some (.float .f64 a1_3) := (blk_cell BK167.out 3).trans rfl; have hcz18_4 : w17.cell? ⟨gb167, 4, none⟩ = some (.int .u8 a1_4) := (blk_cell BK167.out 4).trans rfl; have hfz18_0 := blk_frozen BK167.out 0; have hfz18_1 := blk_frozen BK167.out 1; have hfz18_2 := blk_frozen BK167.out 2; have hfz18_3 := blk_frozen BK167.out 3; have hfz18_4 := blk_frozen BK167.out 4; obtain ⟨Ao19, co19, eo19⟩ := Kd.R_slice HO176.out; subst eo19) | ((with_reducible refine gate_callee (f := 138) rfl ?_); refine goesL_ (some 23) rfl rfl Tryz.func138 (by kernel_rfl) rfl #[.slice Ao19 y174.length co19, .float .f64 a1_1] rfl (by (try simp only [List.map_toArray, List.map_cons, List.map_nil]); first | done | rfl | (simp only [List.length_drop, List.length_take]; rfl)) ?_; (with_reducible refine (geom_appendFloat.calls (fun k_ => some k_ = (.slice Ao19 y174.length co19 : Value).ownBlock) (.slice Ao19 y174.length co19) y174 a1_1 t177 w0 _ ?side1 ?side2 ?side3 A11.out).mono ?_); (case side1 => repeat (first | (with_reducible first | exact HB.out | apply below_alloc | apply pw_below_drewN | apply below_drew1 | refine below_set ?_ GE167.out) | exact HB.out)); (case side2 => exact Kd.R_tight rfl HO176.out); (case side3 => exact hG); rintro e w20 ⟨v178, rfl, ho0, hb, hkp⟩; refine ⟨_, rfl, ?_⟩; have n0_ := Aside0.mk (blk_kept (by (with_reducible repeat (first | refine blk_drewN ?_ _ | refine blk_drew ?_ | refine blk_alloc ?_ _)); exact BK167.out) hkp (fun hs_ => (fun e_ => (Kd.R_ne HO176.out BK167.out (by decide)) e_) hs_)); have n1_ := Aside0.mk (Kd.R_mono (ok' := fun k_ => (P0_ k_ ∨ w.heap.size ≤ k_)) ho0 (fun k_ hk_ => Or.elim hk_ (fun hs_ => (HO176.out.1 k_ (hs_).symm)) (fun hn_ => (.inr (Nat.le_trans (by first | exact HK.out.1 | exact (show Kept w _ (fun k_ => P0_ k_) from by repeat (first | (with_reducible first | exact HK.out | apply Kept.alloc | apply Kept.drewN | apply Kept.drew | refine Kept.setCell ?_ (.inr GW167.out) _) | exact HK.out)).1) hn_))))); have n2_ := Aside0.mk (Kept.then_ (S := (fun k_ => P0_ k_)) (by repeat (first | (with_reducible first | exact HK.out | apply Kept.alloc | apply Kept.drewN | apply Kept.drew | refine Kept.setCell ?_ (.inr GW167.out) _) | exact HK.out)) hkp (fun k_ hs_ => (fun e_ => (HO176.out.1 k_ e_.symm)) hs_)); have n3_ := Aside0.mk (hb); clear BK167; clear HK; clear HB; clear HO176; have BK167 := n0_; have HO179 := n1_; have HK := n2_; have HB := n3_; clear n0_ n1_ n2_ n3_; (try clear hb); (try clear hkp); (try clear ho0); have hcz21_0 : w20.cell? ⟨gb167, 0, none⟩ = some (.float .f64 a1_0) := (blk_cell BK167.out 0).trans rfl; have hcz21_1 : w20.cell? ⟨gb167, 1, none⟩ = some (.float .f64 a1_1) := (blk_cell BK167.out 1).trans rfl; have hcz21_2 : w20.cell? ⟨gb167, 2, none⟩ = some (.float .f64 a1_2) := (blk_cell BK167.out 2).trans rfl; have hcz21_3 : w20.cell? ⟨gb167, 3, none⟩ = some (.float .f64 a1_3) := (blk_cell BK167.out 3).trans rfl; have hcz21_4 : w20.cell? ⟨gb167, 4, none⟩ = some (.int .u8 a1_4) := (blk_cell BK167.out 4).trans rfl; have hfz21_0 := blk_frozen BK167.out 0; have hfz21_1 := blk_frozen BK167.out 1; have hfz21_2 := blk_frozen BK167.out 2; have hfz21_3 := blk_frozen BK167.out 3; have hfz21_4 := blk_frozen BK167.out 4) | ((with_reducible refine gate_callee (f := 139) rfl ?_); refine goesL_ (some 26) rfl rfl Tryz.func139 (by kernel_rfl) rfl #[.int .u8 a1_4] rfl (by (try simp only [List.map_toArray, List.map_cons, List.map_nil]); first | done | rfl | (simp only [List.length_drop, List.length_take]; rfl)) ?_; (with_reducible refine (geom_CoordinatesType_Is3D.calls a1_4 t180 _ A12.out).mono ?_); rintro e w' ⟨rfl, ⟨nd, rfl⟩⟩; refine ⟨_, rfl, ?_⟩))
        (try simp only [Act.put, List.setIfInBounds_toArray, List.set_cons_zero, List.set_cons_succ])
        go_cut [0] (fun v0 wc => ∃ (kq : Nat) (x0_12 : List Int), Aside0 (geom_appendWKTCoords.j1 kq x0_12 a2 a1_0 a1_1 a1_2 a1_3 a1_4 = some r) ∧ Aside0 (kq ≤ kj3) ∧ Aside0 (Kd.R (Kd.int .u8) 5 wc w0.heap.size (fun k_ => (P0_ k_ ∨ w.heap.size ≤ k_)) v0 x0_12) ∧ Aside0 (wc.heap[gb167]? = some (.cells #[.float .f64 a1_0, .float .f64 a1_1, .float .f64 a1_2, .float .f64 a1_3, .int .u8 a1_4] 50 (0, 0))) ∧ Aside0 (Kept w wc (fun k_ => P0_ k_)) ∧ Aside0 (Below w0.heap.size w0 wc))
        case first =>
          have H := HC13.out
          clear HC13
          by_cases c22 : t180 = true
          · subst c22
            have H1 : (if t177.length < 140737488355328 then ((geom_appendFloat.f (t177 ++ [32]) a1_2).bind fun t184 => (geom_appendWKTCoords.j1 kj3 t184 a2 a1_0 a1_1 a1_2 a1_3 a1_4)) else (none)) = some r := by rw [if_pos rfl] at H; exact H
            clear H
            have H := H1
            clear H1
            by_cases c23 : t177.length < 140737488355328
            · rw [if_pos c23] at H
              have LMc23 := Aside0.mk c23
              clear c23
              obtain ⟨y181, hy181⟩ : ∃ y_ : List Int, y_ = (t177 ++ [32]) := ⟨_, rfl⟩
              replace H : ((geom_appendFloat.f y181 a1_2).bind fun t184 => (geom_appendWKTCoords.j1 kj3 t184 a2 a1_0 a1_1 a1_2 a1_3 a1_4)) = some r := by first | (rw [hy181]; with_reducible exact H) | (have H2_ := (Option.bind_some _ _).symm.trans H; rw [hy181]; with_reducible exact H2_) | (have H2_ := (Option.bind_some _ _).symm.trans H; with_reducible exact H2_) | with_reducible exact H | (rw [hy181]; exact H) | exact H
              have Ny181 := Aside0.mk hy181
              clear hy181
              replace H := Option.bind_eq_some_iff.mp H
              obtain ⟨t184, A240, H⟩ := H
              replace H : (geom_appendWKTCoords.j1 kj3 t184 a2 a1_0 a1_1 a1_2 a1_3 a1_4) = some r := H
              have A24 := Aside0.mk A240
              clear A240
              have H' := Aside0.mk H
              clear H
              go_wp2_with (first | ((with_reducible refine gate_builtin (b := .append) (xs := #[.tmp 27, .tmp 28]) rfl ?_); at_builtin; refine Kd.R_append (Kd.int .u8) (w0 := w0) w0.heap.size rfl (.tmp 27) (.tmp 28) 30 5 (.int .u8 0) 1 rfl Tryz.underlying30 info5 rfl (by decide) (by omega) v178 t177 32 [.int .u8 32] (fun k_ => (P0_ k_ ∨ w.heap.size ≤ k_)) (fun _ => False) rfl rfl ?aP (fun _ hk => hk.elim) ?aF ?aO ?aB ?aS ?aL ?_; (case aP => exact rfl); (case aB => exact (by repeat (first | (with_reducible first | exact HB.out | apply below_alloc | apply pw_below_drewN | apply below_drew1 | refine below_set ?_ GE167.out) | exact HB.out))); (case aF => exact (fun k_ hk => (.inr (Nat.le_trans (by first | exact HK.out.1 | exact (show Kept w _ (fun k_ => P0_ k_) from by repeat (first | (with_reducible first | exact HK.out | apply Kept.alloc | apply Kept.drewN | apply Kept.drew | refine Kept.setCell ?_ (.inr GW167.out) _) | exact HK.out)).1) hk)))); (case aO => exact (by (with_reducible repeat (first | apply Kd.R_alloc | apply Kd.R_drewN | apply Kd.R_drew)); exact HO179.out)); (case aS => exact (below_size (by repeat (first | (with_reducible first | exact HB.out | apply below_alloc | apply pw_below_drewN | apply below_drew1 | refine below_set ?_ GE167.out) | exact HB.out)))); (case aL => have := LMc23.out; omega); intro v182 w25 ho hb hg hat; rw [← Ny181.out] at ho; have n0_ := Aside0.mk (blk_grown (g := gb167) (o := .cells #[.float .f64 a1_0, .float .f64 a1_1, .float .f64 a1_2, .float .f64 a1_3, .int .u8 a1_4] 50 (0, 0)) (by (with_reducible repeat (first | refine blk_drewN ?_ _ | refine blk_drew ?_ | refine blk_alloc ?_ _)); exact BK167.out) hg (Kd.R_ne HO179.out BK167.out (by decide))); have n1_ := Aside0.mk (hb); have n2_ := Aside0.mk (Kept.of_grown (S := (fun k_ => P0_ k_)) hg (by repeat (first | (with_reducible first | exact HK.out | apply Kept.alloc | apply Kept.drewN | apply Kept.drew | refine Kept.setCell ?_ (.inr GW167.out) _) | exact HK.out)) (fun k_ e_ => (HO179.out.1 k_ e_))); have n3_ := Aside0.mk (ho); clear BK167; clear HB; clear HK; clear HO179; have BK167 := n0_; have HB := n1_; have HK := n2_; have HO183 := n3_; clear n0_ n1_ n2_ n3_; clear ho hb hg hat; have hcz26_0 : w25.cell? ⟨gb167, 0, none⟩ = some (.float .f64 a1_0) := (blk_cell BK167.out 0).trans rfl; have hcz26_1 : w25.cell? ⟨gb167, 1, none⟩ = some (.float .f64 a1_1) := (blk_cell BK167.out 1).trans rfl; have hcz26_2 : w25.cell? ⟨gb167, 2, none⟩ = some (.float .f64 a1_2) := (blk_cell BK167.out 2).trans rfl; have hcz26_3 : w25.cell? ⟨gb167, 3, none⟩ = some (.float .f64 a1_3) := (blk_cell BK167.out 3).trans rfl; have hcz26_4 : w25.cell? ⟨gb167, 4, none⟩ = some (.int .u8 a1_4) := (blk_cell BK167.out 4).trans rfl; have hfz26_0 := blk_frozen BK167.out 0; have hfz26_1 := blk_frozen BK167.out 1; have hfz26_2 := blk_frozen BK167.out 2; have hfz26_3 := blk_frozen BK167.out 3; have hfz26_4 := blk_frozen BK167.out 4; obtain ⟨Ao27, co27, eo27⟩ := Kd.R_slice HO183.out; subst eo27) | ((with_reducible refine gate_callee (f := 138) rfl ?_); refine goesL_ (some 33) rfl rfl Tryz.func138 (by kernel_rfl) rfl #[.slice Ao27 y181.length co27, .float .f64 a1_2] rfl (by (try simp only [List.map_toArray, List.map_cons, List.map_nil]); first | done | rfl | (simp only [List.length_drop, List.length_take]; rfl)) ?_; (with_reducible refine (geom_appendFloat.calls (fun k_ => some k_ = (.slice Ao27 y181.length co27 : Value).ownBlock) (.slice Ao27 y181.length co27) y181 a1_2 t184 w0 _ ?side1 ?side2 ?side3 A24.out).mono ?_); (case side1 => repeat (first | (with_reducible first | exact HB.out | apply below_alloc | apply pw_below_drewN | apply below_drew1 | refine below_set ?_ GE167.out) | exact HB.out)); (case side2 => exact Kd.R_tight rfl HO183.out); (case side3 => exact hG); rintro e w28 ⟨v185, rfl, ho0, hb, hkp⟩; refine ⟨_, rfl, ?_⟩; have n0_ := Aside0.mk (blk_kept (by (with_reducible repeat (first | refine blk_drewN ?_ _ | refine blk_drew ?_ | refine blk_alloc ?_ _)); exact BK167.out) hkp (fun hs_ => (fun e_ => (Kd.R_ne HO183.out BK167.out (by decide)) e_) hs_)); have n1_ := Aside0.mk (Kd.R_mono (ok' := fun k_ => (P0_ k_ ∨ w.heap.size ≤ k_)) ho0 (fun k_ hk_ => Or.elim hk_ (fun hs_ => (HO183.out.1 k_ (hs_).symm)) (fun hn_ => (.inr (Nat.le_trans (by first | exact HK.out.1 | exact (show Kept w _ (fun k_ => P0_ k_) from by repeat (first | (with_reducible first | exact HK.out | apply Kept.alloc | apply Kept.drewN | apply Kept.drew | refine Kept.setCell ?_ (.inr GW167.out) _) | exact HK.out)).1) hn_))))); have n2_ := Aside0.mk (Kept.then_ (S := (fun k_ => P0_ k_)) (by repeat (first | (with_reducible first | exact HK.out | apply Kept.alloc | apply Kept.drewN | apply Kept.drew | refine Kept.setCell ?_ (.inr GW167.out) _) | exact HK.out)) hkp (fun k_ hs_ => (fun e_ => (HO183.out.1 k_ e_.symm)) hs_)); have n3_ := Aside0.mk (hb); clear BK167; clear HK; clear HB; clear HO183; have BK167 := n0_; have HO186 := n1_; have HK := n2_; have HB := n3_; clear n0_ n1_ n2_ n3_; (try clear hb); (try clear hkp); (try clear ho0)))
              go_meet
              case rel => exact ⟨_, (t184), H', ⟨by have := HJ3.out; first | omega | exact Nat.le_refl _⟩, ⟨by (with_reducible repeat (first | apply Kd.R_alloc | apply Kd.R_drewN | apply Kd.R_drew)); exact HO186.out⟩, ⟨by (with_reducible repeat (first | refine blk_drewN ?_ _ | refine blk_drew ?_ | refine blk_alloc ?_ _)); exact BK167.out⟩, ⟨by repeat (first | (with_reducible first | exact HK.out | apply Kept.alloc | apply Kept.drewN | apply Kept.drew | refine Kept.setCell ?_ (.inr GW167.out) _) | exact HK.out)⟩, ⟨by repeat (first | (with_reducible first | exact HB.out | apply below_alloc | apply pw_below_drewN | apply below_drew1 | refine below_set ?_ GE167.out) | exact HB.out)⟩⟩
            · rw [if_neg c23] at H
              exact absurd H (by simp)
          · replace c22 := Bool.eq_false_iff.mpr c22
            subst c22
            have H1 : (geom_appendWKTCoords.j1 kj3 t177 a2 a1_0 a1_1 a1_2 a1_3 a1_4) = some r := by rw [if_neg (show ¬ (false = true) by decide)] at H; exact H
            clear H
            have H := H1
            clear H1
            have H' := Aside0.mk H
            clear H
            go_wp2
            go_meet
            case rel => exact ⟨_, (t177), H', ⟨by have := HJ3.out; first | omega | exact Nat.le_refl _⟩, ⟨by (with_reducible repeat (first | apply Kd.R_alloc | apply Kd.R_drewN | apply Kd.R_drew)); exact HO179.out⟩, ⟨by (with_reducible repeat (first | refine blk_drewN ?_ _ | refine blk_drew ?_ | refine blk_alloc ?_ _)); exact BK167.out⟩, ⟨by repeat (first | (with_reducible first | exact HK.out | apply Kept.alloc | apply Kept.drewN | apply Kept.drew | refine Kept.setCell ?_ (.inr GW167.out) _) | exact HK.out)⟩, ⟨by repeat (first | (with_reducible first | exact HB.out | apply below_alloc | apply pw_below_drewN | apply below_drew1 | refine below_set ?_ GE167.out) | exact HB.out)⟩⟩
        case rest =>
          clear HC13
          try clear c1
          try clear c2
          try clear p2
          try clear c6
          try clear c7
          try clear c10
          try clear c12
          try clear c13
          try clear c22
          try clear c23
          try clear hcz14_0
          try clear hcz14_1
          try clear hcz14_2
          try clear hcz14_3
          try clear hcz14_4
          try clear hcz18_0
          try clear hcz18_1
          try clear hcz18_2
          try clear hcz18_3
          try clear hcz18_4
          try clear hcz21_0
          try clear hcz21_1
          try clear hcz21_2
          try clear hcz21_3
          try clear hcz21_4
          try clear hcz26_0
          try clear hcz26_1
          try clear hcz26_2
          try clear hcz26_3
          try clear hcz26_4
          try clear hfz14_0
          try clear hfz14_1
          try clear hfz14_2
          try clear hfz14_3
          try clear hfz14_4
          try clear hfz18_0
          try clear hfz18_1
          try clear hfz18_2
          try clear hfz18_3
          try clear hfz18_4
          try clear hfz21_0
          try clear hfz21_1
          try clear hfz21_2
          try clear hfz21_3
          try clear hfz21_4
          try clear hfz26_0
          try clear hfz26_1
          try clear hfz26_2
          try clear hfz26_3
          try clear hfz26_4
          try clear p2
          obtain ⟨kq, x0_12, HA, HJ12, HO_0, BK167, HK, HB⟩ := hcut
          cases kq with
          | zero => exact absurd HA.out (by simp [geom_appendWKTCoords.j1])
          | succ kj12 =>
            have H := HA.out
            clear HA
            simp only [geom_appendWKTCoords.j1] at H
            replace H := Option.bind_eq_some_iff.mp H
            obtain ⟨t187, A290, H⟩ := H
            replace H : (if t187 = true then (if x0_12.length < 140737488355328 then ((geom_appendFloat.f (x0_12 ++ [32]) a1_3).bind fun t191 => (if a2 = true then (if t191.length < 140737488355328 then (some (t191 ++ [41])) else (none)) else (some t191))) else (none)) else (if a2 = true then (if x0_12.length < 140737488355328 then (some (x0_12 ++ [41])) else (none)) else (some x0_12))) = some r := H
            have A29 := Aside0.mk A290
            clear A290
            by_cases c30 : t187 = true
            · subst c30
              have H1 : (if x0_12.length < 140737488355328 then ((geom_appendFloat.f (x0_12 ++ [32]) a1_3).bind fun t191 => (if a2 = true then (if t191.length < 140737488355328 then (some (t191 ++ [41])) else (none)) else (some t191))) else (none)) = some r := by rw [if_pos rfl] at H; exact H
              clear H
              have H := H1
              clear H1
              by_cases c31 : x0_12.length < 140737488355328
              · rw [if_pos c31] at H
                have LMc31 := Aside0.mk c31
                clear c31
                obtain ⟨y188, hy188⟩ : ∃ y_ : List Int, y_ = (x0_12 ++ [32]) := ⟨_, rfl⟩
                replace H : ((geom_appendFloat.f y188 a1_3).bind fun t191 => (if a2 = true then (if t191.length < 140737488355328 then (some (t191 ++ [41])) else (none)) else (some t191))) = some r := by first | (rw [hy188]; with_reducible exact H) | (have H2_ := (Option.bind_some _ _).symm.trans H; rw [hy188]; with_reducible exact H2_) | (have H2_ := (Option.bind_some _ _).symm.trans H; with_reducible exact H2_) | with_reducible exact H | (rw [hy188]; exact H) | exact H
                have Ny188 := Aside0.mk hy188
                clear hy188
                replace H := Option.bind_eq_some_iff.mp H
                obtain ⟨t191, A320, H⟩ := H
                replace H : (if a2 = true then (if t191.length < 140737488355328 then (some (t191 ++ [41])) else (none)) else (some t191)) = some r := H
                have A32 := Aside0.mk A320
                clear A320
                by_cases c33 : a2 = true
                · subst c33
                  have H1 : (if t191.length < 140737488355328 then (some (t191 ++ [41])) else (none)) = some r := by rw [if_pos rfl] at H; exact H
                  clear H
                  have H := H1
                  clear H1
                  by_cases c34 : t191.length < 140737488355328
                  · rw [if_pos c34] at H
                    have LMc34 := Aside0.mk c34
                    clear c34
                    obtain ⟨y194, hy194⟩ : ∃ y_ : List Int, y_ = (t191 ++ [41]) := ⟨_, rfl⟩
                    replace H : (some y194) = some r := by first | (rw [hy194]; with_reducible exact H) | (have H2_ := (Option.bind_some _ _).symm.trans H; rw [hy194]; with_reducible exact H2_) | (have H2_ := (Option.bind_some _ _).symm.trans H; with_reducible exact H2_) | with_reducible exact H | (rw [hy194]; exact H) | exact H
                    have Ny194 := Aside0.mk hy194
                    clear hy194
                    obtain rfl := Option.some.inj H
                    have hcz35_0 : wc.cell? ⟨gb167, 0, none⟩ = some (.float .f64 a1_0) := (blk_cell BK167.out 0).trans rfl
                    have hcz35_1 : wc.cell? ⟨gb167, 1, none⟩ = some (.float .f64 a1_1) := (blk_cell BK167.out 1).trans rfl
                    have hcz35_2 : wc.cell? ⟨gb167, 2, none⟩ = some (.float .f64 a1_2) := (blk_cell BK167.out 2).trans rfl
                    have hcz35_3 : wc.cell? ⟨gb167, 3, none⟩ = some (.float .f64 a1_3) := (blk_cell BK167.out 3).trans rfl
                    have hcz35_4 : wc.cell? ⟨gb167, 4, none⟩ = some (.int .u8 a1_4) := (blk_cell BK167.out 4).trans rfl
                    have hfz35_0 := blk_frozen BK167.out 0
                    have hfz35_1 := blk_frozen BK167.out 1
                    have hfz35_2 := blk_frozen BK167.out 2
                    have hfz35_3 := blk_frozen BK167.out 3
                    have hfz35_4 := blk_frozen BK167.out 4
                    go_wp2_with (first | ((with_reducible refine gate_callee (f := 140) rfl ?_); refine goesL_ (some 36) rfl rfl Tryz.func140 (by kernel_rfl) rfl #[.int .u8 a1_4] rfl (by (try simp only [List.map_toArray, List.map_cons, List.map_nil]); first | done | rfl | (simp only [List.length_drop, List.length_take]; rfl)) ?_; (with_reducible refine (geom_CoordinatesType_IsMeasured.calls a1_4 true _ A29.out).mono ?_); rintro e w' ⟨rfl, ⟨nd, rfl⟩⟩; refine ⟨_, rfl, ?_⟩) | ((with_reducible refine gate_builtin (b := .append) (xs := #[.tmp 37, .tmp 38]) rfl ?_); at_builtin; refine Kd.R_append (Kd.int .u8) (w0 := w0) w0.heap.size rfl (.tmp 37) (.tmp 38) 30 5 (.int .u8 0) 1 rfl Tryz.underlying30 info5 rfl (by decide) (by omega) u0 x0_12 32 [.int .u8 32] (fun k_ => (P0_ k_ ∨ w.heap.size ≤ k_)) (fun _ => False) rfl rfl ?aP (fun _ hk => hk.elim) ?aF ?aO ?aB ?aS ?aL ?_; (case aP => exact rfl); (case aB => exact (by repeat (first | (with_reducible first | exact HB.out | apply below_alloc | apply pw_below_drewN | apply below_drew1 | refine below_set ?_ GE167.out) | exact HB.out))); (case aF => exact (fun k_ hk => (.inr (Nat.le_trans (by first | exact HK.out.1 | exact (show Kept w _ (fun k_ => P0_ k_) from by repeat (first | (with_reducible first | exact HK.out | apply Kept.alloc | apply Kept.drewN | apply Kept.drew | refine Kept.setCell ?_ (.inr GW167.out) _) | exact HK.out)).1) hk)))); (case aO => exact (by (with_reducible repeat (first | apply Kd.R_alloc | apply Kd.R_drewN | apply Kd.R_drew)); exact HO_0.out)); (case aS => exact (below_size (by repeat (first | (with_reducible first | exact HB.out | apply below_alloc | apply pw_below_drewN | apply below_drew1 | refine below_set ?_ GE167.out) | exact HB.out)))); (case aL => have := LMc31.out; omega); intro v189 w36 ho hb hg hat; rw [← Ny188.out] at ho; have n0_ := Aside0.mk (blk_grown (g := gb167) (o := .cells #[.float .f64 a1_0, .float .f64 a1_1, .float .f64 a1_2, .float .f64 a1_3, .int .u8 a1_4] 50 (0, 0)) (by (with_reducible repeat (first | refine blk_drewN ?_ _ | refine blk_drew ?_ | refine blk_alloc ?_ _)); exact BK167.out) hg (Kd.R_ne HO_0.out BK167.out (by decide))); have n1_ := Aside0.mk (hb); have n2_ := Aside0.mk (Kept.of_grown (S := (fun k_ => P0_ k_)) hg (by repeat (first | (with_reducible first | exact HK.out | apply Kept.alloc | apply Kept.drewN | apply Kept.drew | refine Kept.setCell ?_ (.inr GW167.out) _) | exact HK.out)) (fun k_ e_ => (HO_0.out.1 k_ e_))); have n3_ := Aside0.mk (ho); clear BK167; clear HB; clear HK; clear HO_0; have BK167 := n0_; have HB := n1_; have HK := n2_; have HO190 := n3_; clear n0_ n1_ n2_ n3_; clear ho hb hg hat; have hcz37_0 : w36.cell? ⟨gb167, 0, none⟩ = some (.float .f64 a1_0) := (blk_cell BK167.out 0).trans rfl; have hcz37_1 : w36.cell? ⟨gb167, 1, none⟩ = some (.float .f64 a1_1) := (blk_cell BK167.out 1).trans rfl; have hcz37_2 : w36.cell? ⟨gb167, 2, none⟩ = some (.float .f64 a1_2) := (blk_cell BK167.out 2).trans rfl; have hcz37_3 : w36.cell? ⟨gb167, 3, none⟩ = some (.float .f64 a1_3) := (blk_cell BK167.out 3).trans rfl; have hcz37_4 : w36.cell? ⟨gb167, 4, none⟩ = some (.int .u8 a1_4) := (blk_cell BK167.out 4).trans rfl; have hfz37_0 := blk_frozen BK167.out 0; have hfz37_1 := blk_frozen BK167.out 1; have hfz37_2 := blk_frozen BK167.out 2; have hfz37_3 := blk_frozen BK167.out 3; have hfz37_4 := blk_frozen BK167.out 4; obtain ⟨Ao38, co38, eo38⟩ := Kd.R_slice HO190.out; subst eo38) | ((with_reducible refine gate_callee (f := 138) rfl ?_); refine goesL_ (some 43) rfl rfl Tryz.func138 (by kernel_rfl) rfl #[.slice Ao38 y188.length co38, .float .f64 a1_3] rfl (by (try simp only [List.map_toArray, List.map_cons, List.map_nil]); first | done | rfl | (simp only [List.length_drop, List.length_take]; rfl)) ?_; (with_reducible refine (geom_appendFloat.calls (fun k_ => some k_ = (.slice Ao38 y188.length co38 : Value).ownBlock) (.slice Ao38 y188.length co38) y188 a1_3 t191 w0 _ ?side1 ?side2 ?side3 A32.out).mono ?_); (case side1 => repeat (first | (with_reducible first | exact HB.out | apply below_alloc | apply pw_below_drewN | apply below_drew1 | refine below_set ?_ GE167.out) | exact HB.out)); (case side2 => exact Kd.R_tight rfl HO190.out); (case side3 => exact hG); rintro e w39 ⟨v192, rfl, ho0, hb, hkp⟩; refine ⟨_, rfl, ?_⟩; have n0_ := Aside0.mk (blk_kept (by (with_reducible repeat (first | refine blk_drewN ?_ _ | refine blk_drew ?_ | refine blk_alloc ?_ _)); exact BK167.out) hkp (fun hs_ => (fun e_ => (Kd.R_ne HO190.out BK167.out (by decide)) e_) hs_)); have n1_ := Aside0.mk (Kd.R_mono (ok' := fun k_ => (P0_ k_ ∨ w.heap.size ≤ k_)) ho0 (fun k_ hk_ => Or.elim hk_ (fun hs_ => (HO190.out.1 k_ (hs_).symm)) (fun hn_ => (.inr (Nat.le_trans (by first | exact HK.out.1 | exact (show Kept w _ (fun k_ => P0_ k_) from by repeat (first | (with_reducible first | exact HK.out | apply Kept.alloc | apply Kept.drewN | apply Kept.drew | refine Kept.setCell ?_ (.inr GW167.out) _) | exact HK.out)).1) hn_))))); have n2_ := Aside0.mk (Kept.then_ (S := (fun k_ => P0_ k_)) (by repeat (first | (with_reducible first | exact HK.out | apply Kept.alloc | apply Kept.drewN | apply Kept.drew | refine Kept.setCell ?_ (.inr GW167.out) _) | exact HK.out)) hkp (fun k_ hs_ => (fun e_ => (HO190.out.1 k_ e_.symm)) hs_)); have n3_ := Aside0.mk (hb); clear BK167; clear HK; clear HB; clear HO190; have BK167 := n0_; have HO193 := n1_; have HK := n2_; have HB := n3_; clear n0_ n1_ n2_ n3_; (try clear hb); (try clear hkp); (try clear ho0)) | ((with_reducible refine gate_builtin (b := .append) (xs := #[.tmp 45, .tmp 46]) rfl ?_); at_builtin; refine Kd.R_append (Kd.int .u8) (w0 := w0) w0.heap.size rfl (.tmp 45) (.tmp 46) 30 5 (.int .u8 0) 1 rfl Tryz.underlying30 info5 rfl (by decide) (by omega) v192 t191 41 [.int .u8 41] (fun k_ => (P0_ k_ ∨ w.heap.size ≤ k_)) (fun _ => False) rfl rfl ?aP (fun _ hk => hk.elim) ?aF ?aO ?aB ?aS ?aL ?_; (case aP => exact rfl); (case aB => exact (by repeat (first | (with_reducible first | exact HB.out | apply below_alloc | apply pw_below_drewN | apply below_drew1 | refine below_set ?_ GE167.out) | exact HB.out))); (case aF => exact (fun k_ hk => (.inr (Nat.le_trans (by first | exact HK.out.1 | exact (show Kept w _ (fun k_ => P0_ k_) from by repeat (first | (with_reducible first | exact HK.out | apply Kept.alloc | apply Kept.drewN | apply Kept.drew | refine Kept.setCell ?_ (.inr GW167.out) _) | exact HK.out)).1) hk)))); (case aO => exact (by (with_reducible repeat (first | apply Kd.R_alloc | apply Kd.R_drewN | apply Kd.R_drew)); exact HO193.out)); (case aS => exact (below_size (by repeat (first | (with_reducible first | exact HB.out | apply below_alloc | apply pw_below_drewN | apply below_drew1 | refine below_set ?_ GE167.out) | exact HB.out)))); (case aL => have := LMc34.out; omega); intro v195 w40 ho hb hg hat; rw [← Ny194.out] at ho; have n0_ := Aside0.mk (blk_grown (g := gb167) (o := .cells #[.float .f64 a1_0, .float .f64 a1_1, .float .f64 a1_2, .float .f64 a1_3, .int .u8 a1_4] 50 (0, 0)) (by (with_reducible repeat (first | refine blk_drewN ?_ _ | refine blk_drew ?_ | refine blk_alloc ?_ _)); exact BK167.out) hg (Kd.R_ne HO193.out BK167.out (by decide))); have n1_ := Aside0.mk (hb); have n2_ := Aside0.mk (Kept.of_grown (S := (fun k_ => P0_ k_)) hg (by repeat (first | (with_reducible first | exact HK.out | apply Kept.alloc | apply Kept.drewN | apply Kept.drew | refine Kept.setCell ?_ (.inr GW167.out) _) | exact HK.out)) (fun k_ e_ => (HO193.out.1 k_ e_))); have n3_ := Aside0.mk (ho); clear BK167; clear HB; clear HK; clear HO193; have BK167 := n0_; have HB := n1_; have HK := n2_; have HO196 := n3_; clear n0_ n1_ n2_ n3_; clear ho hb hg hat))
                    go_ret
                    exact ⟨_, by first | rfl | (simp [errW_none, errW_some] <;> rfl) | (simp [*, errW_none, errW_some] <;> rfl), by (with_reducible repeat (first | apply Kd.R_alloc | apply Kd.R_drewN | apply Kd.R_drew)); exact HO196.out, by repeat (first | (with_reducible first | exact HB.out | apply below_alloc | apply pw_below_drewN | apply below_drew1 | refine below_set ?_ GE167.out) | exact HB.out), by repeat (first | (with_reducible first | exact HK.out | apply Kept.alloc | apply Kept.drewN | apply Kept.drew | refine Kept.setCell ?_ (.inr GW167.out) _) | exact HK.out)⟩
                  · rw [if_neg c34] at H
                    exact absurd H (by simp)
                · replace c33 := Bool.eq_false_iff.mpr c33
                  subst c33
                  have H1 : (some t191) = some r := by rw [if_neg (show ¬ (false = true) by decide)] at H; exact H
                  clear H
                  have H := H1
                  clear H1
                  obtain rfl := Option.some.inj H
                  have hcz41_0 : wc.cell? ⟨gb167, 0, none⟩ = some (.float .f64 a1_0) := (blk_cell BK167.out 0).trans rfl
                  have hcz41_1 : wc.cell? ⟨gb167, 1, none⟩ = some (.float .f64 a1_1) := (blk_cell BK167.out 1).trans rfl
                  have hcz41_2 : wc.cell? ⟨gb167, 2, none⟩ = some (.float .f64 a1_2) := (blk_cell BK167.out 2).trans rfl
                  have hcz41_3 : wc.cell? ⟨gb167, 3, none⟩ = some (.float .f64 a1_3) := (blk_cell BK167.out 3).trans rfl
                  have hcz41_4 : wc.cell? ⟨gb167, 4, none⟩ = some (.int .u8 a1_4) := (blk_cell BK167.out 4).trans rfl
                  have hfz41_0 := blk_frozen BK167.out 0
                  have hfz41_1 := blk_frozen BK167.out 1
                  have hfz41_2 := blk_frozen BK167.out 2
                  have hfz41_3 := blk_frozen BK167.out 3
                  have hfz41_4 := blk_frozen BK167.out 4
                  go_wp2_with (first | ((with_reducible refine gate_callee (f := 140) rfl ?_); refine goesL_ (some 36) rfl rfl Tryz.func140 (by kernel_rfl) rfl #[.int .u8 a1_4] rfl (by (try simp only [List.map_toArray, List.map_cons, List.map_nil]); first | done | rfl | (simp only [List.length_drop, List.length_take]; rfl)) ?_; (with_reducible refine (geom_CoordinatesType_IsMeasured.calls a1_4 true _ A29.out).mono ?_); rintro e w' ⟨rfl, ⟨nd, rfl⟩⟩; refine ⟨_, rfl, ?_⟩) | ((with_reducible refine gate_builtin (b := .append) (xs := #[.tmp 37, .tmp 38]) rfl ?_); at_builtin; refine Kd.R_append (Kd.int .u8) (w0 := w0) w0.heap.size rfl (.tmp 37) (.tmp 38) 30 5 (.int .u8 0) 1 rfl Tryz.underlying30 info5 rfl (by decide) (by omega) u0 x0_12 32 [.int .u8 32] (fun k_ => (P0_ k_ ∨ w.heap.size ≤ k_)) (fun _ => False) rfl rfl ?aP (fun _ hk => hk.elim) ?aF ?aO ?aB ?aS ?aL ?_; (case aP => exact rfl); (case aB => exact (by repeat (first | (with_reducible first | exact HB.out | apply below_alloc | apply pw_below_drewN | apply below_drew1 | refine below_set ?_ GE167.out) | exact HB.out))); (case aF => exact (fun k_ hk => (.inr (Nat.le_trans (by first | exact HK.out.1 | exact (show Kept w _ (fun k_ => P0_ k_) from by repeat (first | (with_reducible first | exact HK.out | apply Kept.alloc | apply Kept.drewN | apply Kept.drew | refine Kept.setCell ?_ (.inr GW167.out) _) | exact HK.out)).1) hk)))); (case aO => exact (by (with_reducible repeat (first | apply Kd.R_alloc | apply Kd.R_drewN | apply Kd.R_drew)); exact HO_0.out)); (case aS => exact (below_size (by repeat (first | (with_reducible first | exact HB.out | apply below_alloc | apply pw_below_drewN | apply below_drew1 | refine below_set ?_ GE167.out) | exact HB.out)))); (case aL => have := LMc31.out; omega); intro v189 w42 ho hb hg hat; rw [← Ny188.out] at ho; have n0_ := Aside0.mk (blk_grown (g := gb167) (o := .cells #[.float .f64 a1_0, .float .f64 a1_1, .float .f64 a1_2, .float .f64 a1_3, .int .u8 a1_4] 50 (0, 0)) (by (with_reducible repeat (first | refine blk_drewN ?_ _ | refine blk_drew ?_ | refine blk_alloc ?_ _)); exact BK167.out) hg (Kd.R_ne HO_0.out BK167.out (by decide))); have n1_ := Aside0.mk (hb); have n2_ := Aside0.mk (Kept.of_grown (S := (fun k_ => P0_ k_)) hg (by repeat (first | (with_reducible first | exact HK.out | apply Kept.alloc | apply Kept.drewN | apply Kept.drew | refine Kept.setCell ?_ (.inr GW167.out) _) | exact HK.out)) (fun k_ e_ => (HO_0.out.1 k_ e_))); have n3_ := Aside0.mk (ho); clear BK167; clear HB; clear HK; clear HO_0; have BK167 := n0_; have HB := n1_; have HK := n2_; have HO190 := n3_; clear n0_ n1_ n2_ n3_; clear ho hb hg hat; have hcz43_0 : w42.cell? ⟨gb167, 0, none⟩ = some (.float .f64 a1_0) := (blk_cell BK167.out 0).trans rfl; have hcz43_1 : w42.cell? ⟨gb167, 1, none⟩ = some (.float .f64 a1_1) := (blk_cell BK167.out 1).trans rfl; have hcz43_2 : w42.cell? ⟨gb167, 2, none⟩ = some (.float .f64 a1_2) := (blk_cell BK167.out 2).trans rfl; have hcz43_3 : w42.cell? ⟨gb167, 3, none⟩ = some (.float .f64 a1_3) := (blk_cell BK167.out 3).trans rfl; have hcz43_4 : w42.cell? ⟨gb167, 4, none⟩ = some (.int .u8 a1_4) := (blk_cell BK167.out 4).trans rfl; have hfz43_0 := blk_frozen BK167.out 0; have hfz43_1 := blk_frozen BK167.out 1; have hfz43_2 := blk_frozen BK167.out 2; have hfz43_3 := blk_frozen BK167.out 3; have hfz43_4 := blk_frozen BK167.out 4; obtain ⟨Ao44, co44, eo44⟩ := Kd.R_slice HO190.out; subst eo44) | ((with_reducible refine gate_callee (f := 138) rfl ?_); refine goesL_ (some 43) rfl rfl Tryz.func138 (by kernel_rfl) rfl #[.slice Ao44 y188.length co44, .float .f64 a1_3] rfl (by (try simp only [List.map_toArray, List.map_cons, List.map_nil]); first | done | rfl | (simp only [List.length_drop, List.length_take]; rfl)) ?_; (with_reducible refine (geom_appendFloat.calls (fun k_ => some k_ = (.slice Ao44 y188.length co44 : Value).ownBlock) (.slice Ao44 y188.length co44) y188 a1_3 t191 w0 _ ?side1 ?side2 ?side3 A32.out).mono ?_); (case side1 => repeat (first | (with_reducible first | exact HB.out | apply below_alloc | apply pw_below_drewN | apply below_drew1 | refine below_set ?_ GE167.out) | exact HB.out)); (case side2 => exact Kd.R_tight rfl HO190.out); (case side3 => exact hG); rintro e w45 ⟨v192, rfl, ho0, hb, hkp⟩; refine ⟨_, rfl, ?_⟩; have n0_ := Aside0.mk (blk_kept (by (with_reducible repeat (first | refine blk_drewN ?_ _ | refine blk_drew ?_ | refine blk_alloc ?_ _)); exact BK167.out) hkp (fun hs_ => (fun e_ => (Kd.R_ne HO190.out BK167.out (by decide)) e_) hs_)); have n1_ := Aside0.mk (Kd.R_mono (ok' := fun k_ => (P0_ k_ ∨ w.heap.size ≤ k_)) ho0 (fun k_ hk_ => Or.elim hk_ (fun hs_ => (HO190.out.1 k_ (hs_).symm)) (fun hn_ => (.inr (Nat.le_trans (by first | exact HK.out.1 | exact (show Kept w _ (fun k_ => P0_ k_) from by repeat (first | (with_reducible first | exact HK.out | apply Kept.alloc | apply Kept.drewN | apply Kept.drew | refine Kept.setCell ?_ (.inr GW167.out) _) | exact HK.out)).1) hn_))))); have n2_ := Aside0.mk (Kept.then_ (S := (fun k_ => P0_ k_)) (by repeat (first | (with_reducible first | exact HK.out | apply Kept.alloc | apply Kept.drewN | apply Kept.drew | refine Kept.setCell ?_ (.inr GW167.out) _) | exact HK.out)) hkp (fun k_ hs_ => (fun e_ => (HO190.out.1 k_ e_.symm)) hs_)); have n3_ := Aside0.mk (hb); clear BK167; clear HK; clear HB; clear HO190; have BK167 := n0_; have HO193 := n1_; have HK := n2_; have HB := n3_; clear n0_ n1_ n2_ n3_; (try clear hb); (try clear hkp); (try clear ho0)))
                  go_ret
                  exact ⟨_, by first | rfl | (simp [errW_none, errW_some] <;> rfl) | (simp [*, errW_none, errW_some] <;> rfl), by (with_reducible repeat (first | apply Kd.R_alloc | apply Kd.R_drewN | apply Kd.R_drew)); exact HO193.out, by repeat (first | (with_reducible first | exact HB.out | apply below_alloc | apply pw_below_drewN | apply below_drew1 | refine below_set ?_ GE167.out) | exact HB.out), by repeat (first | (with_reducible first | exact HK.out | apply Kept.alloc | apply Kept.drewN | apply Kept.drew | refine Kept.setCell ?_ (.inr GW167.out) _) | exact HK.out)⟩
              · rw [if_neg c31] at H
                exact absurd H (by simp)
            · replace c30 := Bool.eq_false_iff.mpr c30
              subst c30
              have H1 : (if a2 = true then (if x0_12.length < 140737488355328 then (some (x0_12 ++ [41])) else (none)) else (some x0_12)) = some r := by rw [if_neg (show ¬ (false = true) by decide)] at H; exact H
              clear H
              have H := H1
              clear H1
              by_cases c46 : a2 = true
              · subst c46
                have H1 : (if x0_12.length < 140737488355328 then (some (x0_12 ++ [41])) else (none)) = some r := by rw [if_pos rfl] at H; exact H
                clear H
                have H := H1
                clear H1
                by_cases c47 : x0_12.length < 140737488355328
                · rw [if_pos c47] at H
                  have LMc47 := Aside0.mk c47
                  clear c47
                  obtain ⟨y197, hy197⟩ : ∃ y_ : List Int, y_ = (x0_12 ++ [41]) := ⟨_, rfl⟩
                  replace H : (some y197) = some r := by first | (rw [hy197]; with_reducible exact H) | (have H2_ := (Option.bind_some _ _).symm.trans H; rw [hy197]; with_reducible exact H2_) | (have H2_ := (Option.bind_some _ _).symm.trans H; with_reducible exact H2_) | with_reducible exact H | (rw [hy197]; exact H) | exact H
                  have Ny197 := Aside0.mk hy197
                  clear hy197
                  obtain rfl := Option.some.inj H
                  have hcz48_0 : wc.cell? ⟨gb167, 0, none⟩ = some (.float .f64 a1_0) := (blk_cell BK167.out 0).trans rfl
                  have hcz48_1 : wc.cell? ⟨gb167, 1, none⟩ = some (.float .f64 a1_1) := (blk_cell BK167.out 1).trans rfl
                  have hcz48_2 : wc.cell? ⟨gb167, 2, none⟩ = some (.float .f64 a1_2) := (blk_cell BK167.out 2).trans rfl
                  have hcz48_3 : wc.cell? ⟨gb167, 3, none⟩ = some (.float .f64 a1_3) := (blk_cell BK167.out 3).trans rfl
                  have hcz48_4 : wc.cell? ⟨gb167, 4, none⟩ = some (.int .u8 a1_4) := (blk_cell BK167.out 4).trans rfl
                  have hfz48_0 := blk_frozen BK167.out 0
                  have hfz48_1 := blk_frozen BK167.out 1
                  have hfz48_2 := blk_frozen BK167.out 2
                  have hfz48_3 := blk_frozen BK167.out 3
                  have hfz48_4 := blk_frozen BK167.out 4
                  go_wp2_with (first | ((with_reducible refine gate_callee (f := 140) rfl ?_); refine goesL_ (some 36) rfl rfl Tryz.func140 (by kernel_rfl) rfl #[.int .u8 a1_4] rfl (by (try simp only [List.map_toArray, List.map_cons, List.map_nil]); first | done | rfl | (simp only [List.length_drop, List.length_take]; rfl)) ?_; (with_reducible refine (geom_CoordinatesType_IsMeasured.calls a1_4 false _ A29.out).mono ?_); rintro e w' ⟨rfl, ⟨nd, rfl⟩⟩; refine ⟨_, rfl, ?_⟩) | ((with_reducible refine gate_builtin (b := .append) (xs := #[.tmp 45, .tmp 46]) rfl ?_); at_builtin; refine Kd.R_append (Kd.int .u8) (w0 := w0) w0.heap.size rfl (.tmp 45) (.tmp 46) 30 5 (.int .u8 0) 1 rfl Tryz.underlying30 info5 rfl (by decide) (by omega) u0 x0_12 41 [.int .u8 41] (fun k_ => (P0_ k_ ∨ w.heap.size ≤ k_)) (fun _ => False) rfl rfl ?aP (fun _ hk => hk.elim) ?aF ?aO ?aB ?aS ?aL ?_; (case aP => exact rfl); (case aB => exact (by repeat (first | (with_reducible first | exact HB.out | apply below_alloc | apply pw_below_drewN | apply below_drew1 | refine below_set ?_ GE167.out) | exact HB.out))); (case aF => exact (fun k_ hk => (.inr (Nat.le_trans (by first | exact HK.out.1 | exact (show Kept w _ (fun k_ => P0_ k_) from by repeat (first | (with_reducible first | exact HK.out | apply Kept.alloc | apply Kept.drewN | apply Kept.drew | refine Kept.setCell ?_ (.inr GW167.out) _) | exact HK.out)).1) hk)))); (case aO => exact (by (with_reducible repeat (first | apply Kd.R_alloc | apply Kd.R_drewN | apply Kd.R_drew)); exact HO_0.out)); (case aS => exact (below_size (by repeat (first | (with_reducible first | exact HB.out | apply below_alloc | apply pw_below_drewN | apply below_drew1 | refine below_set ?_ GE167.out) | exact HB.out)))); (case aL => have := LMc47.out; omega); intro v198 w49 ho hb hg hat; rw [← Ny197.out] at ho; have n0_ := Aside0.mk (blk_grown (g := gb167) (o := .cells #[.float .f64 a1_0, .float .f64 a1_1, .float .f64 a1_2, .float .f64 a1_3, .int .u8 a1_4] 50 (0, 0)) (by (with_reducible repeat (first | refine blk_drewN ?_ _ | refine blk_drew ?_ | refine blk_alloc ?_ _)); exact BK167.out) hg (Kd.R_ne HO_0.out BK167.out (by decide))); have n1_ := Aside0.mk (hb); have n2_ := Aside0.mk (Kept.of_grown (S := (fun k_ => P0_ k_)) hg (by repeat (first | (with_reducible first | exact HK.out | apply Kept.alloc | apply Kept.drewN | apply Kept.drew | refine Kept.setCell ?_ (.inr GW167.out) _) | exact HK.out)) (fun k_ e_ => (HO_0.out.1 k_ e_))); have n3_ := Aside0.mk (ho); clear BK167; clear HB; clear HK; clear HO_0; have BK167 := n0_; have HB := n1_; have HK := n2_; have HO199 := n3_; clear n0_ n1_ n2_ n3_; clear ho hb hg hat))
                  go_ret
                  exact ⟨_, by first | rfl | (simp [errW_none, errW_some] <;> rfl) | (simp [*, errW_none, errW_some] <;> rfl), by (with_reducible repeat (first | apply Kd.R_alloc | apply Kd.R_drewN | apply Kd.R_drew)); exact HO199.out, by repeat (first | (with_reducible first | exact HB.out | apply below_alloc | apply pw_below_drewN | apply below_drew1 | refine below_set ?_ GE167.out) | exact HB.out), by repeat (first | (with_reducible first | exact HK.out | apply Kept.alloc | apply Kept.drewN | apply Kept.drew | refine Kept.setCell ?_ (.inr GW167.out) _) | exact HK.out)⟩
                · rw [if_neg c47] at H
                  exact absurd H (by simp)
              · replace c46 := Bool.eq_false_iff.mpr c46
                subst c46
                have H1 : (some x0_12) = some r := by rw [if_neg (show ¬ (false = true) by decide)] at H; exact H
                clear H
                have H := H1
                clear H1
                obtain rfl := Option.some.inj H
                have hcz50_0 : wc.cell? ⟨gb167, 0, none⟩ = some (.float .f64 a1_0) := (blk_cell BK167.out 0).trans rfl
                have hcz50_1 : wc.cell? ⟨gb167, 1, none⟩ = some (.float .f64 a1_1) := (blk_cell BK167.out 1).trans rfl
                have hcz50_2 : wc.cell? ⟨gb167, 2, none⟩ = some (.float .f64 a1_2) := (blk_cell BK167.out 2).trans rfl
                have hcz50_3 : wc.cell? ⟨gb167, 3, none⟩ = some (.float .f64 a1_3) := (blk_cell BK167.out 3).trans rfl
                have hcz50_4 : wc.cell? ⟨gb167, 4, none⟩ = some (.int .u8 a1_4) := (blk_cell BK167.out 4).trans rfl
                have hfz50_0 := blk_frozen BK167.out 0
                have hfz50_1 := blk_frozen BK167.out 1
                have hfz50_2 := blk_frozen BK167.out 2
                have hfz50_3 := blk_frozen BK167.out 3
                have hfz50_4 := blk_frozen BK167.out 4
                go_wp2_with (first | ((with_reducible refine gate_callee (f := 140) rfl ?_); refine goesL_ (some 36) rfl rfl Tryz.func140 (by kernel_rfl) rfl #[.int .u8 a1_4] rfl (by (try simp only [List.map_toArray, List.map_cons, List.map_nil]); first | done | rfl | (simp only [List.length_drop, List.length_take]; rfl)) ?_; (with_reducible refine (geom_CoordinatesType_IsMeasured.calls a1_4 false _ A29.out).mono ?_); rintro e w' ⟨rfl, ⟨nd, rfl⟩⟩; refine ⟨_, rfl, ?_⟩))
                go_ret
                exact ⟨_, by first | rfl | (simp [errW_none, errW_some] <;> rfl) | (simp [*, errW_none, errW_some] <;> rfl), by (with_reducible repeat (first | apply Kd.R_alloc | apply Kd.R_drewN | apply Kd.R_drew)); exact HO_0.out, by repeat (first | (with_reducible first | exact HB.out | apply below_alloc | apply pw_below_drewN | apply below_drew1 | refine below_set ?_ GE167.out) | exact HB.out), by repeat (first | (with_reducible first | exact HK.out | apply Kept.alloc | apply Kept.drewN | apply Kept.drew | refine Kept.setCell ?_ (.inr GW167.out) _) | exact HK.out)⟩
      · rw [if_neg c10] at H
        exact absurd H (by simp)

/-! ### geom_Point_appendWKTBody: function 109 -/
def geom_Point_appendWKTBody.f (k : Nat) (a0_0 : Nat) (a0_1 : Nat) (a0_2 : Nat) (a0_3 : Nat) (a0_4 : Int) (a0_5 : Bool) (l1 : List Int) : Option (List Int) := if a0_5 = true then ((geom_appendWKTCoords.f k l1 a0_0 a0_1 a0_2 a0_3 a0_4 true).bind fun t201 => (some t201)) else ((geom_appendWKTEmpty.f l1).bind fun t204 => (some t204))
theorem geom_Point_appendWKTBody.mono : ∀ a0 a1 a2 a3 a4 a5 a6 k, LeO (geom_Point_appendWKTBody.f k a0 a1 a2 a3 a4 a5 a6) (geom_Point_appendWKTBody.f (k + 1) a0 a1 a2 a3 a4 a5 a6) := by
  intro a0 a1 a2 a3 a4 a5 a6 k
  unfold geom_Point_appendWKTBody.f
  repeat' first
      | (with_reducible exact geom_appendWKTCoords.mono _ _ _ _ _ _ _ _)
      | (with_reducible exact LeO.refl _)
      | (with_reducible exact LeO.none _)
      | (with_reducible refine LeO.ite ?_ ?_)
      | (with_reducible refine LeO.bind ?_ (fun _ => ?_))
      | exact geom_appendWKTCoords.mono _ _ _ _ _ _ _ _
      | exact LeO.none _
      | refine LeO.ite ?_ ?_
      | refine LeO.bind ?_ (fun _ => ?_)
set_option maxHeartbeats 8000000 in
set_option maxRecDepth 100000 in
theorem geom_Point_appendWKTBody.calls (k : Nat) (a0_0 : Nat) (a0_1 : Nat) (a0_2 : Nat) (a0_3 : Nat) (a0_4 : Int) (a0_5 : Bool) (P1_ : Nat → Prop) (u9000_ : Value) (l1 : List Int) (r : List Int) (w0 w : World) (hB : Below w0.heap.size w0 w) (ho1 : Kd.R (Kd.int .u8) 5 w w0.heap.size P1_ u9000_ l1) (hG : Glob w0) (h : geom_Point_appendWKTBody.f k a0_0 a0_1 a0_2 a0_3 a0_4 a0_5 l1 = some r) :
    Calls Tryz.prog 109 #[.agg #[.float .f64 a0_0, .float .f64 a0_1, .float .f64 a0_2, .float .f64 a0_3, .int .u8 a0_4, .bool a0_5], u9000_] w fun e w' => ∃ v0_ : Value, e = .returned (v0_) ∧ Kd.R (Kd.int .u8) 5 w' w0.heap.size (fun k_ => (P1_ k_ ∨ w.heap.size ≤ k_)) v0_ r ∧ Below w0.heap.size w0 w' ∧ Kept w w' (fun k_ => P1_ k_) := by
  have hu52 := Tryz.underlying52
  have hu50 := Tryz.underlying50
  have HO1 := Aside0.mk (show Kd.R (Kd.int .u8) 5 w w0.heap.size (fun k_ => (P1_ k_ ∨ w.heap.size ≤ k_)) u9000_ l1 from Kd.R_mono ho1 (fun k_ hk => (.inl hk)))
  have HK := Aside0.mk (Kept.refl w (fun k_ => P1_ k_))
  have HW0 := Aside0.mk hB.size
  have HB := Aside0.mk hB
  clear hB
  have H : (if a0_5 = true then ((geom_appendWKTCoords.f k l1 a0_0 a0_1 a0_2 a0_3 a0_4 true).bind fun t201 => (some t201)) else ((geom_appendWKTEmpty.f l1).bind fun t204 => (some t204))) = some r := h
  clear h
  by_cases c3 : a0_5 = true
  · subst c3
    have H1 : ((geom_appendWKTCoords.f k l1 a0_0 a0_1 a0_2 a0_3 a0_4 true).bind fun t201 => (some t201)) = some r := by rw [if_pos rfl] at H; exact H
    clear H
    have H := H1
    clear H1
    replace H := Option.bind_eq_some_iff.mp H
    obtain ⟨t201, A40, H⟩ := H
    replace H : (some t201) = some r := H
    have A4 := Aside0.mk A40
    clear A40
    obtain rfl := Option.some.inj H
    go_enter Tryz.func109, Tryz.ntmps109
    go_wp2_with (first | ((with_reducible refine gate_dst (N := 2) rfl ?_); refine box_event ?hg (N := 2) ?hd (cs := #[.float .f64 a0_0, .float .f64 a0_1, .float .f64 a0_2, .float .f64 a0_3, .int .u8 a0_4, .bool true]) (t := 52) ?hr ?_; (case hd => rfl); (case hg => rfl); (case hr => first | (go_simp; done) | (go_simp; rfl)); intro gb200 hg w5 hbox hb; have n0_ := Aside0.mk (Kd.R_below (by (with_reducible repeat (first | apply Kd.R_alloc | apply Kd.R_drewN | apply Kd.R_drew)); exact HO1.out) hb); have n1_ := Aside0.mk (Kept.below (S := (fun k_ => P1_ k_)) (by repeat (first | (with_reducible first | exact HK.out | apply Kept.alloc | apply Kept.drewN | apply Kept.drew) | exact HK.out)) hb); have n2_ := Aside0.mk (below_step (by repeat (first | (with_reducible first | exact HB.out | apply below_alloc | apply pw_below_drewN | apply below_drew1) | exact HB.out)) hb); have n3_ := Aside0.mk (hbox); have n4_ := Aside0.mk ((by rw [hg]; exact (by first | exact HK.out.1 | exact (show Kept w _ (fun k_ => P1_ k_) from by repeat (first | (with_reducible first | exact HK.out | apply Kept.alloc | apply Kept.drewN | apply Kept.drew) | exact HK.out)).1) : w.heap.size ≤ gb200)); have n5_ := Aside0.mk ((by rw [hg]; exact (below_size (by repeat (first | (with_reducible first | exact HB.out | apply below_alloc | apply pw_below_drewN | apply below_drew1) | exact HB.out))) : w0.heap.size ≤ gb200)); clear HO1; clear HK; clear HB; have HO1 := n0_; have HK := n1_; have HB := n2_; have BK200 := n3_; have GW200 := n4_; have GE200 := n5_; clear n0_ n1_ n2_ n3_ n4_ n5_; clear hb hbox hg; have hcz6_0 : w5.cell? ⟨gb200, 0, none⟩ = some (.float .f64 a0_0) := (blk_cell BK200.out 0).trans rfl; have hcz6_1 : w5.cell? ⟨gb200, 1, none⟩ = some (.float .f64 a0_1) := (blk_cell BK200.out 1).trans rfl; have hcz6_2 : w5.cell? ⟨gb200, 2, none⟩ = some (.float .f64 a0_2) := (blk_cell BK200.out 2).trans rfl; have hcz6_3 : w5.cell? ⟨gb200, 3, none⟩ = some (.float .f64 a0_3) := (blk_cell BK200.out 3).trans rfl; have hcz6_4 : w5.cell? ⟨gb200, 4, none⟩ = some (.int .u8 a0_4) := (blk_cell BK200.out 4).trans rfl; have hcz6_5 : w5.cell? ⟨gb200, 5, none⟩ = some (.bool true) := (blk_cell BK200.out 5).trans rfl; have hfz6_0 := blk_frozen BK200.out 0; have hfz6_1 := blk_frozen BK200.out 1; have hfz6_2 := blk_frozen BK200.out 2; have hfz6_3 := blk_frozen BK200.out 3; have hfz6_4 := blk_frozen BK200.out 4; have hfz6_5 := blk_frozen BK200.out 5; obtain ⟨Ao7, co7, eo7⟩ := Kd.R_slice HO1.out; subst eo7) | ((with_reducible refine gate_callee (f := 129) rfl ?_); refine goesL_ (some 13) rfl rfl Tryz.func129 (by kernel_rfl) rfl #[.slice Ao7 l1.length co7, .agg #[.float .f64 a0_0, .float .f64 a0_1, .float .f64 a0_2, .float .f64 a0_3, .int .u8 a0_4], .bool true] rfl (by (try simp only [List.map_toArray, List.map_cons, List.map_nil]); first | done | rfl | (simp only [List.length_drop, List.length_take]; rfl)) ?_; (with_reducible refine (geom_appendWKTCoords.calls k (fun k_ => some k_ = (.slice Ao7 l1.length co7 : Value).ownBlock) (.slice Ao7 l1.length co7) l1 a0_0 a0_1 a0_2 a0_3 a0_4 true t201 w0 _ ?side1 ?side2 ?side3 A4.out).mono ?_); (case side1 => repeat (first | (with_reducible first | exact HB.out | apply below_alloc | apply pw_below_drewN | apply below_drew1 | refine below_set ?_ GE200.out) | exact HB.out)); (case side2 => exact Kd.R_tight rfl HO1.out); (case side3 => exact hG); rintro e w8 ⟨v202, rfl, ho0, hb, hkp⟩; refine ⟨_, rfl, ?_⟩; have n0_ := Aside0.mk (blk_kept (by (with_reducible repeat (first | refine blk_drewN ?_ _ | refine blk_drew ?_ | refine blk_alloc ?_ _)); exact BK200.out) hkp (fun hs_ => (fun e_ => (Kd.R_ne HO1.out BK200.out (by decide)) e_) hs_)); have n1_ := Aside0.mk (Kd.R_mono (ok' := fun k_ => (P1_ k_ ∨ w.heap.size ≤ k_)) ho0 (fun k_ hk_ => Or.elim hk_ (fun hs_ => (HO1.out.1 k_ (hs_).symm)) (fun hn_ => (.inr (Nat.le_trans (by first | exact HK.out.1 | exact (show Kept w _ (fun k_ => P1_ k_) from by repeat (first | (with_reducible first | exact HK.out | apply Kept.alloc | apply Kept.drewN | apply Kept.drew | refine Kept.setCell ?_ (.inr GW200.out) _) | exact HK.out)).1) hn_))))); have n2_ := Aside0.mk (Kept.then_ (S := (fun k_ => P1_ k_)) (by repeat (first | (with_reducible first | exact HK.out | apply Kept.alloc | apply Kept.drewN | apply Kept.drew | refine Kept.setCell ?_ (.inr GW200.out) _) | exact HK.out)) hkp (fun k_ hs_ => (fun e_ => (HO1.out.1 k_ e_.symm)) hs_)); have n3_ := Aside0.mk (hb); clear BK200; clear HK; clear HB; clear HO1; have BK200 := n0_; have HO203 := n1_; have HK := n2_; have HB := n3_; clear n0_ n1_ n2_ n3_; (try clear hb); (try clear hkp); (try clear ho0)))
    go_ret
    exact ⟨_, by first | rfl | (simp [errW_none, errW_some] <;> rfl) | (simp [*, errW_none, errW_some] <;> rfl), by (with_reducible repeat (first | apply Kd.R_alloc | apply Kd.R_drewN | apply Kd.R_drew)); exact HO203.out, by repeat (first | (with_reducible first | exact HB.out | apply below_alloc | apply pw_below_drewN | apply below_drew1 | refine below_set ?_ GE200.out) | exact HB.out), by repeat (first | (with_reducible first | exact HK.out | apply Kept.alloc | apply Kept.drewN | apply Kept.drew | refine Kept.setCell ?_ (.inr GW200.out) _) | exact HK.out)⟩
  · replace c3 := Bool.eq_false_iff.mpr c3
    subst c3
    have H1 : ((geom_appendWKTEmpty.f l1).bind fun t204 => (some t204)) = some r := by rw [if_neg (show ¬ (false = true) by decide)] at H; exact H
    clear H
    have H := H1
    clear H1
    replace H := Option.bind_eq_some_iff.mp H
    obtain ⟨t204, A90, H⟩ := H
    replace H : (some t204) = some r := H
    have A9 := Aside0.mk A90
    clear A90
    obtain rfl := Option.some.inj H
    go_enter Tryz.func109, Tryz.ntmps109
    go_wp2_with (first | ((with_reducible refine gate_dst (N := 2) rfl ?_); refine box_event ?hg (N := 2) ?hd (cs := #[.float .f64 a0_0, .float .f64 a0_1, .float .f64 a0_2, .float .f64 a0_3, .int .u8 a0_4, .bool false]) (t := 52) ?hr ?_; (case hd => rfl); (case hg => rfl); (case hr => first | (go_simp; done) | (go_simp; rfl)); intro gb200 hg w10 hbox hb; have n0_ := Aside0.mk (Kd.R_below (by (with_reducible repeat (first | apply Kd.R_alloc | apply Kd.R_drewN | apply Kd.R_drew)); exact HO1.out) hb); have n1_ := Aside0.mk (Kept.below (S := (fun k_ => P1_ k_)) (by repeat (first | (with_reducible first | exact HK.out | apply Kept.alloc | apply Kept.drewN | apply Kept.drew) | exact HK.out)) hb); have n2_ := Aside0.mk (below_step (by repeat (first | (with_reducible first | exact HB.out | apply below_alloc | apply pw_below_drewN | apply below_drew1) | exact HB.out)) hb); have n3_ := Aside0.mk (hbox); have n4_ := Aside0.mk ((by rw [hg]; exact (by first | exact HK.out.1 | exact (show Kept w _ (fun k_ => P1_ k_) from by repeat (first | (with_reducible first | exact HK.out | apply Kept.alloc | apply Kept.drewN | apply Kept.drew) | exact HK.out)).1) : w.heap.size ≤ gb200)); have n5_ := Aside0.mk ((by rw [hg]; exact (below_size (by repeat (first | (with_reducible first | exact HB.out | apply below_alloc | apply pw_below_drewN | apply below_drew1) | exact HB.out))) : w0.heap.size ≤ gb200)); clear HO1; clear HK; clear HB; have HO1 := n0_; have HK := n1_; have HB := n2_; have BK200 := n3_; have GW200 := n4_; have GE200 := n5_; clear n0_ n1_ n2_ n3_ n4_ n5_; clear hb hbox hg; have hcz11_0 : w10.cell? ⟨gb200, 0, none⟩ = some (.float .f64 a0_0) := (blk_cell BK200.out 0).trans rfl; have hcz11_1 : w10.cell? ⟨gb200, 1, none⟩ = some (.float .f64 a0_1) := (blk_cell BK200.out 1).trans rfl; have hcz11_2 : w10.cell? ⟨gb200, 2, none⟩ = some (.float .f64 a0_2) := (blk_cell BK200.out 2).trans rfl; have hcz11_3 : w10.cell? ⟨gb200, 3, none⟩ = some (.float .f64 a0_3) := (blk_cell BK200.out 3).trans rfl; have hcz11_4 : w10.cell? ⟨gb200, 4, none⟩ = some (.int .u8 a0_4) := (blk_cell BK200.out 4).trans rfl; have hcz11_5 : w10.cell? ⟨gb200, 5, none⟩ = some (.bool false) := (blk_cell BK200.out 5).trans rfl; have hfz11_0 := blk_frozen BK200.out 0; have hfz11_1 := blk_frozen BK200.out 1; have hfz11_2 := blk_frozen BK200.out 2; have hfz11_3 := blk_frozen BK200.out 3; have hfz11_4 := blk_frozen BK200.out 4; have hfz11_5 := blk_frozen BK200.out 5; obtain ⟨Ao12, co12, eo12⟩ := Kd.R_slice HO1.out; subst eo12) | ((with_reducible refine gate_callee (f := 115) rfl ?_); refine goesL_ (some 9) rfl rfl Tryz.func115 (by kernel_rfl) rfl #[.slice Ao12 l1.length co12] rfl (by (try simp only [List.map_toArray, List.map_cons, List.map_nil]); first | done | rfl | (simp only [List.length_drop, List.length_take]; rfl)) ?_; (with_reducible refine (geom_appendWKTEmpty.calls (fun k_ => some k_ = (.slice Ao12 l1.length co12 : Value).ownBlock) (.slice Ao12 l1.length co12) l1 t204 w0 _ ?side1 ?side2 A9.out).mono ?_); (case side1 => repeat (first | (with_reducible first | exact HB.out | apply below_alloc | apply pw_below_drewN | apply below_drew1 | refine below_set ?_ GE200.out) | exact HB.out)); (case side2 => exact Kd.R_tight rfl HO1.out); rintro e w13 ⟨v205, rfl, ho0, hb, hkp⟩; refine ⟨_, rfl, ?_⟩; have n0_ := Aside0.mk (blk_kept (by (with_reducible repeat (first | refine blk_drewN ?_ _ | refine blk_drew ?_ | refine blk_alloc ?_ _)); exact BK200.out) hkp (fun hs_ => (fun e_ => (Kd.R_ne HO1.out BK200.out (by decide)) e_) hs_)); have n1_ := Aside0.mk (Kd.R_mono (ok' := fun k_ => (P1_ k_ ∨ w.heap.size ≤ k_)) ho0 (fun k_ hk_ => Or.elim hk_ (fun hs_ => (HO1.out.1 k_ (hs_).symm)) (fun hn_ => (.inr (Nat.le_trans (by first | exact HK.out.1 | exact (show Kept w _ (fun k_ => P1_ k_) from by repeat (first | (with_reducible first | exact HK.out | apply Kept.alloc | apply Kept.drewN | apply Kept.drew | refine Kept.setCell ?_ (.inr GW200.out) _) | exact HK.out)).1) hn_))))); have n2_ := Aside0.mk (Kept.then_ (S := (fun k_ => P1_ k_)) (by repeat (first | (with_reducible first | exact HK.out | apply Kept.alloc | apply Kept.drewN | apply Kept.drew | refine Kept.setCell ?_ (.inr GW200.out) _) | exact HK.out)) hkp (fun k_ hs_ => (fun e_ => (HO1.out.1 k_ e_.symm)) hs_)); have n3_ := Aside0.mk (hb); clear BK200; clear HK; clear HB; clear HO1; have BK200 := n0_; have HO206 := n1_; have HK := n2_; have HB := n3_; clear n0_ n1_ n2_ n3_; (try clear hb); (try clear hkp); (try clear ho0)))
    go_ret
    exact ⟨_, by first | rfl | (simp [errW_none, errW_some] <;> rfl) | (simp [*, errW_none, errW_some] <;> rfl), by (with_reducible repeat (first | apply Kd.R_alloc | apply Kd.R_drewN | apply Kd.R_drew)); exact HO206.out, by repeat (first | (with_reducible first | exact HB.out | apply below_alloc | apply pw_below_drewN | apply below_drew1 | refine below_set ?_ GE200.out) | exact HB.out), by repeat (first | (with_reducible first | exact HK.out | apply Kept.alloc | apply Kept.drewN | apply Kept.drew | refine Kept.setCell ?_ (.inr GW200.out) _) | exact HK.out)⟩

/-! ### geom_Point_AppendWKT: function 57 -/
def geom_Point_AppendWKT.f (k : Nat) (a0_0 : Nat) (a0_1 : Nat) (a0_2 : Nat) (a0_3 : Nat) (a0_4 : Int) (a0_5 : Bool) (l1 : List Int) : Option (List Int) := (geom_appendWKTHeader.f l1 (⟨#[80, 79, 73, 78, 84]⟩ : ByteArray) a0_4).bind fun t208 => ((geom_Point_appendWKTBody.f k a0_0 a0_1 a0_2 a0_3 a0_4 a0_5 t208).bind fun t211 => (some t211))
theorem geom_Point_AppendWKT.mono : ∀ a0 a1 a2 a3 a4 a5 a6 k, LeO (geom_Point_AppendWKT.f k a0 a1 a2 a3 a4 a5 a6) (geom_Point_AppendWKT.f (k + 1) a0 a1 a2 a3 a4 a5 a6) := by
  intro a0 a1 a2 a3 a4 a5 a6 k
  unfold geom_Point_AppendWKT.f
  repeat' first
      | (with_reducible exact geom_Point_appendWKTBody.mono _ _ _ _ _ _ _ _)
      | (with_reducible exact LeO.refl _)
      | (with_reducible exact LeO.none _)
      | (with_reducible refine LeO.ite ?_ ?_)
      | (with_reducible refine LeO.bind ?_ (fun _ => ?_))
      | exact geom_Point_appendWKTBody.mono _ _ _ _ _ _ _ _
      | exact LeO.none _
      | refine LeO.ite ?_ ?_
      | refine LeO.bind ?_ (fun _ => ?_)
set_option maxHeartbeats 8000000 in
set_option maxRecDepth 100000 in
theorem geom_Point_AppendWKT.calls (k : Nat) (a0_0 : Nat) (a0_1 : Nat) (a0_2 : Nat) (a0_3 : Nat) (a0_4 : Int) (a0_5 : Bool) (P1_ : Nat → Prop) (u9000_ : Value) (l1 : List Int) (r : List Int) (w0 w : World) (hB : Below w0.heap.size w0 w) (ho1 : Kd.R (Kd.int .u8) 5 w w0.heap.size P1_ u9000_ l1) (hG : Glob w0) (h : geom_Point_AppendWKT.f k a0_0 a0_1 a0_2 a0_3 a0_4 a0_5 l1 = some r) :
    Calls Tryz.prog 57 #[.agg #[.float .f64 a0_0, .float .f64 a0_1, .float .f64 a0_2, .float .f64 a0_3, .int .u8 a0_4, .bool a0_5], u9000_] w fun e w' => ∃ v0_ : Value, e = .returned (v0_) ∧ Kd.R (Kd.int .u8) 5 w' w0.heap.size (fun k_ => (P1_ k_ ∨ w.heap.size ≤ k_)) v0_ r ∧ Below w0.heap.size w0 w' ∧ Kept w w' (fun k_ => P1_ k_) := by
  have hu52 := Tryz.underlying52
  have HO1 := Aside0.mk (show Kd.R (Kd.int .u8) 5 w w0.heap.size (fun k_ => (P1_ k_ ∨ w.heap.size ≤ k_)) u9000_ l1 from Kd.R_mono ho1 (fun k_ hk => (.inl hk)))
  have HK := Aside0.mk (Kept.refl w (fun k_ => P1_ k_))
  have HW0 := Aside0.mk hB.size
  have HB := Aside0.mk hB
  clear hB
  have H : ((geom_appendWKTHeader.f l1 (⟨#[80, 79, 73, 78, 84]⟩ : ByteArray) a0_4).bind fun t208 => ((geom_Point_appendWKTBody.f k a0_0 a0_1 a0_2 a0_3 a0_4 a0_5 t208).bind fun t211 => (some t211))) = some r := h
  clear h
  replace H := Option.bind_eq_some_iff.mp H
  obtain ⟨t208, A30, H⟩ := H
  replace H : ((geom_Point_appendWKTBody.f k a0_0 a0_1 a0_2 a0_3 a0_4 a0_5 t208).bind fun t211 => (some t211)) = some r := H
  have A3 := Aside0.mk A30
  clear A30
  replace H := Option.bind_eq_some_iff.mp H
  obtain ⟨t211, A40, H⟩ := H
  replace H : (some t211) = some r := H
  have A4 := Aside0.mk A40
  clear A40
  obtain rfl := Option.some.inj H
  go_enter Tryz.func57, Tryz.ntmps57
  go_wp2_with (first | ((with_reducible refine gate_dst (N := 2) rfl ?_); refine box_event ?hg (N := 2) ?hd (cs := #[.float .f64 a0_0, .float .f64 a0_1, .float .f64 a0_2, .float .f64 a0_3, .int .u8 a0_4, .bool a0_5]) (t := 52) ?hr ?_; (case hd => rfl); (case hg => rfl); (case hr => first | (go_simp; done) | (go_simp; rfl)); intro gb207 hg w5 hbox hb; have n0_ := Aside0.mk (Kd.R_below (by (with_reducible repeat (first | apply Kd.R_alloc | apply Kd.R_drewN | apply Kd.R_drew)); exact HO1.out) hb); have n1_ := Aside0.mk (Kept.below (S := (fun k_ => P1_ k_)) (by repeat (first | (with_reducible first | exact HK.out | apply Kept.alloc | apply Kept.drewN | apply Kept.drew) | exact HK.out)) hb); have n2_ := Aside0.mk (below_step (by repeat (first | (with_reducible first | exact HB.out | apply below_alloc | apply pw_below_drewN | apply below_drew1) | exact HB.out)) hb); have n3_ := Aside0.mk (hbox); have n4_ := Aside0.mk ((by rw [hg]; exact (by first | exact HK.out.1 | exact (show Kept w _ (fun k_ => P1_ k_) from by repeat (first | (with_reducible first | exact HK.out | apply Kept.alloc | apply Kept.drewN | apply Kept.drew) | exact HK.out)).1) : w.heap.size ≤ gb207)); have n5_ := Aside0.mk ((by rw [hg]; exact (below_size (by repeat (first | (with_reducible first | exact HB.out | apply below_alloc | apply pw_below_drewN | apply below_drew1) | exact HB.out))) : w0.heap.size ≤ gb207)); clear HO1; clear HK; clear HB; have HO1 := n0_; have HK := n1_; have HB := n2_; have BK207 := n3_; have GW207 := n4_; have GE207 := n5_; clear n0_ n1_ n2_ n3_ n4_ n5_; clear hb hbox hg; have hcz6_0 : w5.cell? ⟨gb207, 0, none⟩ = some (.float .f64 a0_0) := (blk_cell BK207.out 0).trans rfl; have hcz6_1 : w5.cell? ⟨gb207, 1, none⟩ = some (.float .f64 a0_1) := (blk_cell BK207.out 1).trans rfl; have hcz6_2 : w5.cell? ⟨gb207, 2, none⟩ = some (.float .f64 a0_2) := (blk_cell BK207.out 2).trans rfl; have hcz6_3 : w5.cell? ⟨gb207, 3, none⟩ = some (.float .f64 a0_3) := (blk_cell BK207.out 3).trans rfl; have hcz6_4 : w5.cell? ⟨gb207, 4, none⟩ = some (.int .u8 a0_4) := (blk_cell BK207.out 4).trans rfl; have hcz6_5 : w5.cell? ⟨gb207, 5, none⟩ = some (.bool a0_5) := (blk_cell BK207.out 5).trans rfl; have hfz6_0 := blk_frozen BK207.out 0; have hfz6_1 := blk_frozen BK207.out 1; have hfz6_2 := blk_frozen BK207.out 2; have hfz6_3 := blk_frozen BK207.out 3; have hfz6_4 := blk_frozen BK207.out 4; have hfz6_5 := blk_frozen BK207.out 5; obtain ⟨Ao7, co7, eo7⟩ := Kd.R_slice HO1.out; subst eo7) | ((with_reducible refine gate_callee (f := 108) rfl ?_); refine goesL_ (some 9) rfl rfl Tryz.func108 (by kernel_rfl) rfl #[.slice Ao7 l1.length co7, .string (⟨#[80, 79, 73, 78, 84]⟩ : ByteArray), .int .u8 a0_4] rfl (by (try simp only [List.map_toArray, List.map_cons, List.map_nil]); first | done | rfl | (simp only [List.length_drop, List.length_take]; rfl)) ?_; (with_reducible refine (geom_appendWKTHeader.calls (fun k_ => some k_ = (.slice Ao7 l1.length co7 : Value).ownBlock) (.slice Ao7 l1.length co7) l1 (⟨#[80, 79, 73, 78, 84]⟩ : ByteArray) a0_4 t208 w0 _ ?side1 ?side2 A3.out).mono ?_); (case side1 => repeat (first | (with_reducible first | exact HB.out | apply below_alloc | apply pw_below_drewN | apply below_drew1 | refine below_set ?_ GE207.out) | exact HB.out)); (case side2 => exact Kd.R_tight rfl HO1.out); rintro e w8 ⟨v209, rfl, ho0, hb, hkp⟩; refine ⟨_, rfl, ?_⟩; have n0_ := Aside0.mk (blk_kept (by (with_reducible repeat (first | refine blk_drewN ?_ _ | refine blk_drew ?_ | refine blk_alloc ?_ _)); exact BK207.out) hkp (fun hs_ => (fun e_ => (Kd.R_ne HO1.out BK207.out (by decide)) e_) hs_)); have n1_ := Aside0.mk (Kd.R_mono (ok' := fun k_ => (P1_ k_ ∨ w.heap.size ≤ k_)) ho0 (fun k_ hk_ => Or.elim hk_ (fun hs_ => (HO1.out.1 k_ (hs_).symm)) (fun hn_ => (.inr (Nat.le_trans (by first | exact HK.out.1 | exact (show Kept w _ (fun k_ => P1_ k_) from by repeat (first | (with_reducible first | exact HK.out | apply Kept.alloc | apply Kept.drewN | apply Kept.drew | refine Kept.setCell ?_ (.inr GW207.out) _) | exact HK.out)).1) hn_))))); have n2_ := Aside0.mk (Kept.then_ (S := (fun k_ => P1_ k_)) (by repeat (first | (with_reducible first | exact HK.out | apply Kept.alloc | apply Kept.drewN | apply Kept.drew | refine Kept.setCell ?_ (.inr GW207.out) _) | exact HK.out)) hkp (fun k_ hs_ => (fun e_ => (HO1.out.1 k_ e_.symm)) hs_)); have n3_ := Aside0.mk (hb); clear BK207; clear HK; clear HB; clear HO1; have BK207 := n0_; have HO210 := n1_; have HK := n2_; have HB := n3_; clear n0_ n1_ n2_ n3_; (try clear hb); (try clear hkp); (try clear ho0); have hcz9_0 : w8.cell? ⟨gb207, 0, none⟩ = some (.float .f64 a0_0) := (blk_cell BK207.out 0).trans rfl; have hcz9_1 : w8.cell? ⟨gb207, 1, none⟩ = some (.float .f64 a0_1) := (blk_cell BK207.out 1).trans rfl; have hcz9_2 : w8.cell? ⟨gb207, 2, none⟩ = some (.float .f64 a0_2) := (blk_cell BK207.out 2).trans rfl; have hcz9_3 : w8.cell? ⟨gb207, 3, none⟩ = some (.float .f64 a0_3) := (blk_cell BK207.out 3).trans rfl; have hcz9_4 : w8.cell? ⟨gb207, 4, none⟩ = some (.int .u8 a0_4) := (blk_cell BK207.out 4).trans rfl; have hcz9_5 : w8.cell? ⟨gb207, 5, none⟩ = some (.bool a0_5) := (blk_cell BK207.out 5).trans rfl; have hfz9_0 := blk_frozen BK207.out 0; have hfz9_1 := blk_frozen BK207.out 1; have hfz9_2 := blk_frozen BK207.out 2; have hfz9_3 := blk_frozen BK207.out 3; have hfz9_4 := blk_frozen BK207.out 4; have hfz9_5 := blk_frozen BK207.out 5; obtain ⟨Ao10, co10, eo10⟩ := Kd.R_slice HO210.out; subst eo10) | ((with_reducible refine gate_callee (f := 109) rfl ?_); refine goesL_ (some 12) rfl rfl Tryz.func109 (by kernel_rfl) rfl #[.agg #[.float .f64 a0_0, .float .f64 a0_1, .float .f64 a0_2, .float .f64 a0_3, .int .u8 a0_4, .bool a0_5], .slice Ao10 t208.length co10] rfl (by (try simp only [List.map_toArray, List.map_cons, List.map_nil]); first | done | rfl | (simp only [List.length_drop, List.length_take]; rfl)) ?_; (with_reducible refine (geom_Point_appendWKTBody.calls k a0_0 a0_1 a0_2 a0_3 a0_4 a0_5 (fun k_ => some k_ = (.slice Ao10 t208.length co10 : Value).ownBlock) (.slice Ao10 t208.length co10) t208 t211 w0 _ ?side1 ?side2 ?side3 A4.out).mono ?_); (case side1 => repeat (first | (with_reducible first | exact HB.out | apply below_alloc | apply pw_below_drewN | apply below_drew1 | refine below_set ?_ GE207.out) | exact HB.out)); (case side2 => exact Kd.R_tight rfl HO210.out); (case side3 => exact hG); rintro e w11 ⟨v212, rfl, ho0, hb, hkp⟩; refine ⟨_, rfl, ?_⟩; have n0_ := Aside0.mk (blk_kept (by (with_reducible repeat (first | refine blk_drewN ?_ _ | refine blk_drew ?_ | refine blk_alloc ?_ _)); exact BK207.out) hkp (fun hs_ => (fun e_ => (Kd.R_ne HO210.out BK207.out (by decide)) e_) hs_)); have n1_ := Aside0.mk (Kd.R_mono (ok' := fun k_ => (P1_ k_ ∨ w.heap.size ≤ k_)) ho0 (fun k_ hk_ => Or.elim hk_ (fun hs_ => (HO210.out.1 k_ (hs_).symm)) (fun hn_ => (.inr (Nat.le_trans (by first | exact HK.out.1 | exact (show Kept w _ (fun k_ => P1_ k_) from by repeat (first | (with_reducible first | exact HK.out | apply Kept.alloc | apply Kept.drewN | apply Kept.drew | refine Kept.setCell ?_ (.inr GW207.out) _) | exact HK.out)).1) hn_))))); have n2_ := Aside0.mk (Kept.then_ (S := (fun k_ => P1_ k_)) (by repeat (first | (with_reducible first | exact HK.out | apply Kept.alloc | apply Kept.drewN | apply Kept.drew | refine Kept.setCell ?_ (.inr GW207.out) _) | exact HK.out)) hkp (fun k_ hs_ => (fun e_ => (HO210.out.1 k_ e_.symm)) hs_)); have n3_ := Aside0.mk (hb); clear BK207; clear HK; clear HB; clear HO210; have BK207 := n0_; have HO213 := n1_; have HK := n2_; have HB := n3_; clear n0_ n1_ n2_ n3_; (try clear hb); (try clear hkp); (try clear ho0)))
  go_ret
  exact ⟨_, by first | rfl | (simp [errW_none, errW_some] <;> rfl) | (simp [*, errW_none, errW_some] <;> rfl), by (with_reducible repeat (first | apply Kd.R_alloc | apply Kd.R_drewN | apply Kd.R_drew)); exact HO213.out, by repeat (first | (with_reducible first | exact HB.out | apply below_alloc | apply pw_below_drewN | apply below_drew1 | refine below_set ?_ GE207.out) | exact HB.out), by repeat (first | (with_reducible first | exact HK.out | apply Kept.alloc | apply Kept.drewN | apply Kept.drew | refine Kept.setCell ?_ (.inr GW207.out) _) | exact HK.out)⟩

/-! ### geom_Point_AsText: function 29 -/
def geom_Point_AsText.f (k : Nat) (a0_0 : Nat) (a0_1 : Nat) (a0_2 : Nat) (a0_3 : Nat) (a0_4 : Int) (a0_5 : Bool) : Option (ByteArray) := (geom_Point_AppendWKT.f k a0_0 a0_1 a0_2 a0_3 a0_4 a0_5 ([] : List Int)).bind fun t215 => (some (strOfNums t215))
theorem geom_Point_AsText.mono : ∀ a0 a1 a2 a3 a4 a5 k, LeO (geom_Point_AsText.f k a0 a1 a2 a3 a4 a5) (geom_Point_AsText.f (k + 1) a0 a1 a2 a3 a4 a5) := by
  intro a0 a1 a2 a3 a4 a5 k
  unfold geom_Point_AsText.f
  repeat' first
      | (with_reducible exact geom_Point_AppendWKT.mono _ _ _ _ _ _ _ _)
      | (with_reducible exact LeO.refl _)
      | (with_reducible exact LeO.none _)
      | (with_reducible refine LeO.ite ?_ ?_)
      | (with_reducible refine LeO.bind ?_ (fun _ => ?_))
      | exact geom_Point_AppendWKT.mono _ _ _ _ _ _ _ _
      | exact LeO.none _
      | refine LeO.ite ?_ ?_
      | refine LeO.bind ?_ (fun _ => ?_)
set_option maxHeartbeats 8000000 in
set_option maxRecDepth 100000 in
theorem geom_Point_AsText.calls (k : Nat) (a0_0 : Nat) (a0_1 : Nat) (a0_2 : Nat) (a0_3 : Nat) (a0_4 : Int) (a0_5 : Bool) (r : ByteArray) (w : World) (hG : Glob w) (h : geom_Point_AsText.f k a0_0 a0_1 a0_2 a0_3 a0_4 a0_5 = some r) :
    Calls Tryz.prog 29 #[.agg #[.float .f64 a0_0, .float .f64 a0_1, .float .f64 a0_2, .float .f64 a0_3, .int .u8 a0_4, .bool a0_5]] w fun e w' => e = .returned (.string r) ∧ Below w.heap.size w w' := by
  have hu52 := Tryz.underlying52
  have HB := Aside0.mk (Below.refl w.heap.size w)
  have H : ((geom_Point_AppendWKT.f k a0_0 a0_1 a0_2 a0_3 a0_4 a0_5 ([] : List Int)).bind fun t215 => (some (strOfNums t215))) = some r := h
  clear h
  replace H := Option.bind_eq_some_iff.mp H
  obtain ⟨t215, A20, H⟩ := H
  replace H : (some (strOfNums t215)) = some r := H
  have A2 := Aside0.mk A20
  clear A20
  obtain rfl := Option.some.inj H
  go_enter Tryz.func29, Tryz.ntmps29
  go_wp2_with (first | ((with_reducible refine gate_dst (N := 1) rfl ?_); refine box_event ?hg (N := 1) ?hd (cs := #[.float .f64 a0_0, .float .f64 a0_1, .float .f64 a0_2, .float .f64 a0_3, .int .u8 a0_4, .bool a0_5]) (t := 52) ?hr ?_; (case hd => rfl); (case hg => rfl); (case hr => first | (go_simp; done) | (go_simp; rfl)); intro gb214 hg w3 hbox hb; have n0_ := Aside0.mk (below_step (by repeat (first | (with_reducible first | exact HB.out | apply below_alloc | apply pw_below_drewN | apply below_drew1) | exact HB.out)) hb); have n1_ := Aside0.mk (hbox); have n2_ := Aside0.mk ((by rw [hg]; exact (below_size (by repeat (first | (with_reducible first | exact HB.out | apply below_alloc | apply pw_below_drewN | apply below_drew1) | exact HB.out))) : w.heap.size ≤ gb214)); have n3_ := Aside0.mk ((by rw [hg]; exact (below_size (by repeat (first | (with_reducible first | exact HB.out | apply below_alloc | apply pw_below_drewN | apply below_drew1) | exact HB.out))) : w.heap.size ≤ gb214)); clear HB; have HB := n0_; have BK214 := n1_; have GW214 := n2_; have GE214 := n3_; clear n0_ n1_ n2_ n3_; clear hb hbox hg; have hcz4_0 : w3.cell? ⟨gb214, 0, none⟩ = some (.float .f64 a0_0) := (blk_cell BK214.out 0).trans rfl; have hcz4_1 : w3.cell? ⟨gb214, 1, none⟩ = some (.float .f64 a0_1) := (blk_cell BK214.out 1).trans rfl; have hcz4_2 : w3.cell? ⟨gb214, 2, none⟩ = some (.float .f64 a0_2) := (blk_cell BK214.out 2).trans rfl; have hcz4_3 : w3.cell? ⟨gb214, 3, none⟩ = some (.float .f64 a0_3) := (blk_cell BK214.out 3).trans rfl; have hcz4_4 : w3.cell? ⟨gb214, 4, none⟩ = some (.int .u8 a0_4) := (blk_cell BK214.out 4).trans rfl; have hcz4_5 : w3.cell? ⟨gb214, 5, none⟩ = some (.bool a0_5) := (blk_cell BK214.out 5).trans rfl; have hfz4_0 := blk_frozen BK214.out 0; have hfz4_1 := blk_frozen BK214.out 1; have hfz4_2 := blk_frozen BK214.out 2; have hfz4_3 := blk_frozen BK214.out 3; have hfz4_4 := blk_frozen BK214.out 4; have hfz4_5 := blk_frozen BK214.out 5) | ((with_reducible refine gate_callee (f := 57) rfl ?_); refine goesL_ (some 4) rfl rfl Tryz.func57 (by kernel_rfl) rfl #[.agg #[.float .f64 a0_0, .float .f64 a0_1, .float .f64 a0_2, .float .f64 a0_3, .int .u8 a0_4, .bool a0_5], .slice none 0 0] rfl (by (try simp only [List.map_toArray, List.map_cons, List.map_nil]); first | done | rfl | (simp only [List.length_drop, List.length_take]; rfl)) ?_; (refine (geom_Point_AppendWKT.calls k a0_0 a0_1 a0_2 a0_3 a0_4 a0_5 (fun k_ => some k_ = (.slice none 0 0 : Value).ownBlock) (.slice none 0 0) ([] : List Int) t215 w _ ?side1 ?side2 ?side3 A2.out).mono ?_); (case side1 => repeat (first | (with_reducible first | exact HB.out | apply below_alloc | apply pw_below_drewN | apply below_drew1 | refine below_set ?_ GE214.out) | exact HB.out)); (case side2 => exact Kd.R_nil _ _ _ _ _); (case side3 => exact hG); rintro e w5 ⟨v216, rfl, ho0, hb, hkp⟩; refine ⟨_, rfl, ?_⟩; have n0_ := Aside0.mk (blk_kept (by (with_reducible repeat (first | refine blk_drewN ?_ _ | refine blk_drew ?_ | refine blk_alloc ?_ _)); exact BK214.out) hkp (fun hs_ => (fun e_ => by simp [Value.ownBlock] at e_) hs_)); have n1_ := Aside0.mk (Kd.R_mono (ok' := fun k_ => True) ho0 (fun k_ hk_ => trivial)); have n2_ := Aside0.mk (hb); clear BK214; clear HB; have BK214 := n0_; have HO217 := n1_; have HB := n2_; clear n0_ n1_ n2_; (try clear hb); (try clear hkp); (try clear ho0); have hcv6 := own_string (P := Tryz.prog) Tryz.underlying30 Tryz.underlying5 Tryz.underlying9 (Kd.own_of_R HO217.out)))
  go_ret
  exact ⟨by first | rfl | (simp [errW_none, errW_some] <;> rfl) | (simp [*, errW_none, errW_some] <;> rfl), by repeat (first | (with_reducible first | exact HB.out | apply below_alloc | apply pw_below_drewN | apply below_drew1 | refine below_set ?_ GE214.out) | exact HB.out)⟩

/-! ### impl_PointWKT: function 11 -/
def impl_PointWKT.f (k : Nat) (a0_0 : Int) (a0_1 : Int) (l0_2 : List Nat) (l0_3 : List (S25)) : Option (ByteArray) := (impl_point.f k a0_0 a0_1 l0_2 l0_3).bind fun bt219 => ((geom_Point_AsText.f k bt219.1 bt219.2.1 bt219.2.2.1 bt219.2.2.2.1 bt219.2.2.2.2.1 bt219.2.2.2.2.2).bind fun t225 => (some t225))
theorem impl_PointWKT.mono : ∀ a0 a1 a2 a3 k, LeO (impl_PointWKT.f k a0 a1 a2 a3) (impl_PointWKT.f (k + 1) a0 a1 a2 a3) := by
  intro a0 a1 a2 a3 k
  unfold impl_PointWKT.f
  repeat' first
      | (with_reducible exact geom_Point_AsText.mono _ _ _ _ _ _ _)
      | (with_reducible exact impl_point.mono _ _ _ _ _)
      | (with_reducible exact LeO.refl _)
      | (with_reducible exact LeO.none _)
      | (with_reducible refine LeO.ite ?_ ?_)
      | (with_reducible refine LeO.bind ?_ (fun _ => ?_))
      | exact geom_Point_AsText.mono _ _ _ _ _ _ _
      | exact impl_point.mono _ _ _ _ _
      | exact LeO.none _
      | refine LeO.ite ?_ ?_
      | refine LeO.bind ?_ (fun _ => ?_)
set_option maxHeartbeats 8000000 in
set_option maxRecDepth 100000 in
theorem impl_PointWKT.calls (k : Nat) (a0_0 : Int) (a0_1 : Int) (A0_2 : Option Addr) (c0_2 : Nat) (l0_2 : List Nat) (A0_3 : Option Addr) (c0_3 : Nat) (l0_3 : List (S25)) (r : ByteArray) (w : World) (hr0_2 : Kd.C Kd.float w A0_2 l0_2.length l0_2) (hc0_2 : l0_2.length ≤ c0_2) (hr0_3 : Kd.C k25 w A0_3 l0_3.length l0_3) (hc0_3 : l0_3.length ≤ c0_3) (hG : Glob w) (h : impl_PointWKT.f k a0_0 a0_1 l0_2 l0_3 = some r) :
    Calls Tryz.prog 11 #[.agg #[.int .i64 a0_0, .int .i64 a0_1, .slice A0_2 l0_2.length c0_2, .slice A0_3 l0_3.length c0_3]] w fun e w' => e = .returned (.string r) ∧ Below w.heap.size w w' := by
  have hu25 := Tryz.underlying25
  have HR0_2 := Aside0.mk hr0_2
  have HC0_2 := Aside0.mk hc0_2
  clear hr0_2 hc0_2
  have HR0_3 := Aside0.mk hr0_3
  have HC0_3 := Aside0.mk hc0_3
  clear hr0_3 hc0_3
  have HB := Aside0.mk (Below.refl w.heap.size w)
  have H : ((impl_point.f k a0_0 a0_1 l0_2 l0_3).bind fun bt219 => ((geom_Point_AsText.f k bt219.1 bt219.2.1 bt219.2.2.1 bt219.2.2.2.1 bt219.2.2.2.2.1 bt219.2.2.2.2.2).bind fun t225 => (some t225))) = some r := h
  clear h
  replace H := Option.bind_eq_some_iff.mp H
  obtain ⟨⟨t219, t220, t221, t222, t223, t224⟩, A20, H⟩ := H
  replace H : ((geom_Point_AsText.f k t219 t220 t221 t222 t223 t224).bind fun t225 => (some t225)) = some r := H
  have A2 := Aside0.mk A20
  clear A20
  replace H := Option.bind_eq_some_iff.mp H
  obtain ⟨t225, A30, H⟩ := H
  replace H : (some t225) = some r := H
  have A3 := Aside0.mk A30
  clear A30
  obtain rfl := Option.some.inj H
  go_enter Tryz.func11, Tryz.ntmps11
  go_wp2_with (first | ((with_reducible refine gate_dst (N := 1) rfl ?_); refine box_event ?hg (N := 1) ?hd (cs := #[.int .i64 a0_0, .int .i64 a0_1, .slice A0_2 l0_2.length c0_2, .slice A0_3 l0_3.length c0_3]) (t := 25) ?hr ?_; (case hd => rfl); (case hg => rfl); (case hr => first | (go_simp; done) | (go_simp; rfl)); intro gb218 hg w4 hbox hb; have n0_ := Aside0.mk (below_step (by repeat (first | (with_reducible first | exact HB.out | apply below_alloc | apply pw_below_drewN | apply below_drew1) | exact HB.out)) hb); have n1_ := Aside0.mk (hbox); have n2_ := Aside0.mk ((by rw [hg]; exact (below_size (by repeat (first | (with_reducible first | exact HB.out | apply below_alloc | apply pw_below_drewN | apply below_drew1) | exact HB.out))) : w.heap.size ≤ gb218)); have n3_ := Aside0.mk ((by rw [hg]; exact (below_size (by repeat (first | (with_reducible first | exact HB.out | apply below_alloc | apply pw_below_drewN | apply below_drew1) | exact HB.out))) : w.heap.size ≤ gb218)); clear HB; have HB := n0_; have BK218 := n1_; have GW218 := n2_; have GE218 := n3_; clear n0_ n1_ n2_ n3_; clear hb hbox hg; have hcz5_0 : w4.cell? ⟨gb218, 0, none⟩ = some (.int .i64 a0_0) := (blk_cell BK218.out 0).trans rfl; have hcz5_1 : w4.cell? ⟨gb218, 1, none⟩ = some (.int .i64 a0_1) := (blk_cell BK218.out 1).trans rfl; have hcz5_2 : w4.cell? ⟨gb218, 2, none⟩ = some (.slice A0_2 l0_2.length c0_2) := (blk_cell BK218.out 2).trans rfl; have hcz5_3 : w4.cell? ⟨gb218, 3, none⟩ = some (.slice A0_3 l0_3.length c0_3) := (blk_cell BK218.out 3).trans rfl; have hfz5_0 := blk_frozen BK218.out 0; have hfz5_1 := blk_frozen BK218.out 1; have hfz5_2 := blk_frozen BK218.out 2; have hfz5_3 := blk_frozen BK218.out 3) | ((with_reducible refine gate_callee (f := 28) rfl ?_); refine goesL_ (some 4) rfl rfl Tryz.func28 (by kernel_rfl) rfl #[.agg #[.int .i64 a0_0, .int .i64 a0_1, .slice A0_2 l0_2.length c0_2, .slice A0_3 l0_3.length c0_3]] rfl (by (try simp only [List.map_toArray, List.map_cons, List.map_nil]); first | done | rfl | (simp only [List.length_drop, List.length_take]; rfl)) ?_; (with_reducible refine (impl_point.calls k a0_0 a0_1 _ _ l0_2 _ _ l0_3 t219 t220 t221 t222 t223 t224 _ ?side1 ?side2 ?side3 ?side4 A2.out).mono ?_); (case side1 => repeat (first | exact (Kd.C_below HR0_2.out HB.out) | (with_reducible refine Kd.C_alloc ?_ _) | (with_reducible refine Kd.C_drewN ?_ _) | (with_reducible refine Kd.C_drew ?_))); (case side2 => exact HC0_2.out); (case side3 => repeat (first | exact (Kd.C_below HR0_3.out HB.out) | (with_reducible refine Kd.C_alloc ?_ _) | (with_reducible refine Kd.C_drewN ?_ _) | (with_reducible refine Kd.C_drew ?_))); (case side4 => exact HC0_3.out); rintro e w6 ⟨rfl, hb⟩; refine ⟨_, rfl, ?_⟩; have n0_ := Aside0.mk (blk_below (g := gb218) (o := .cells #[.int .i64 a0_0, .int .i64 a0_1, .slice A0_2 l0_2.length c0_2, .slice A0_3 l0_3.length c0_3] 25 (0, 0)) (by (with_reducible repeat (first | refine blk_drewN ?_ _ | refine blk_drew ?_ | refine blk_alloc ?_ _)); exact BK218.out) hb); have n1_ := Aside0.mk (below_step (by repeat (first | (with_reducible first | exact HB.out | apply below_alloc | apply pw_below_drewN | apply below_drew1 | refine below_set ?_ GE218.out) | exact HB.out)) hb); clear BK218; clear HB; have BK218 := n0_; have HB := n1_; clear n0_ n1_; (try clear hb); (try clear hb2); (try clear hk); (try clear hi)) | ((with_reducible refine gate_callee (f := 29) rfl ?_); refine goesL_ (some 5) rfl rfl Tryz.func29 (by kernel_rfl) rfl #[.agg #[.float .f64 t219, .float .f64 t220, .float .f64 t221, .float .f64 t222, .int .u8 t223, .bool t224]] rfl (by (try simp only [List.map_toArray, List.map_cons, List.map_nil]); first | done | rfl | (simp only [List.length_drop, List.length_take]; rfl)) ?_; (with_reducible refine (geom_Point_AsText.calls k t219 t220 t221 t222 t223 t224 t225 _ ?side1 A3.out).mono ?_); (case side1 => exact Glob.below hG (by repeat (first | (with_reducible first | exact HB.out | apply below_alloc | apply pw_below_drewN | apply below_drew1 | refine below_set ?_ GE218.out) | exact HB.out))); rintro e w7 ⟨rfl, hb⟩; refine ⟨_, rfl, ?_⟩; have n0_ := Aside0.mk (blk_below (g := gb218) (o := .cells #[.int .i64 a0_0, .int .i64 a0_1, .slice A0_2 l0_2.length c0_2, .slice A0_3 l0_3.length c0_3] 25 (0, 0)) (by (with_reducible repeat (first | refine blk_drewN ?_ _ | refine blk_drew ?_ | refine blk_alloc ?_ _)); exact BK218.out) hb); have n1_ := Aside0.mk (below_step (by repeat (first | (with_reducible first | exact HB.out | apply below_alloc | apply pw_below_drewN | apply below_drew1 | refine below_set ?_ GE218.out) | exact HB.out)) hb); clear BK218; clear HB; have BK218 := n0_; have HB := n1_; clear n0_ n1_; (try clear hb); (try clear hb2); (try clear hk); (try clear hi)))
  go_ret
  exact ⟨by first | rfl | (simp [errW_none, errW_some] <;> rfl) | (simp [*, errW_none, errW_some] <;> rfl), by repeat (first | (with_reducible first | exact HB.out | apply below_alloc | apply pw_below_drewN | apply below_drew1 | refine below_set ?_ GE218.out) | exact HB.out)⟩

/-! ### spec_kindName: function 30 -/
def spec_kindName.f (a0 : Int) : Option (ByteArray) := if a0 = 1 then (some (⟨#[80, 79, 73, 78, 84]⟩ : ByteArray)) else (if a0 = 2 then (some (⟨#[76, 73, 78, 69, 83, 84, 82, 73, 78, 71]⟩ : ByteArray)) else (if a0 = 3 then (some (⟨#[80, 79, 76, 89, 71, 79, 78]⟩ : ByteArray)) else (if a0 = 4 then (some (⟨#[77, 85, 76, 84, 73, 80, 79, 73, 78, 84]⟩ : ByteArray)) else (if a0 = 5 then (some (⟨#[77, 85, 76, 84, 73, 76, 73, 78, 69, 83, 84, 82, 73, 78, 71]⟩ : ByteArray)) else (if a0 = 6 then (some (⟨#[77, 85, 76, 84, 73, 80, 79, 76, 89, 71, 79, 78]⟩ : ByteArray)) else (some (⟨#[71, 69, 79, 77, 69, 84, 82, 89, 67, 79, 76, 76, 69, 67, 84, 73, 79, 78]⟩ : ByteArray)))))))
set_option maxHeartbeats 8000000 in
set_option maxRecDepth 100000 in
theorem spec_kindName.calls (a0 : Int) (r : ByteArray) (w : World) (h : spec_kindName.f a0 = some r) :
    Calls Tryz.prog 30 #[.int .i64 a0] w fun e w' => e = .returned (.string r) ∧ Drawn0 w w' := by
  have H : (if a0 = 1 then (some (⟨#[80, 79, 73, 78, 84]⟩ : ByteArray)) else (if a0 = 2 then (some (⟨#[76, 73, 78, 69, 83, 84, 82, 73, 78, 71]⟩ : ByteArray)) else (if a0 = 3 then (some (⟨#[80, 79, 76, 89, 71, 79, 78]⟩ : ByteArray)) else (if a0 = 4 then (some (⟨#[77, 85, 76, 84, 73, 80, 79, 73, 78, 84]⟩ : ByteArray)) else (if a0 = 5 then (some (⟨#[77, 85, 76, 84, 73, 76, 73, 78, 69, 83, 84, 82, 73, 78, 71]⟩ : ByteArray)) else (if a0 = 6 then (some (⟨#[77, 85, 76, 84, 73, 80, 79, 76, 89, 71, 79, 78]⟩ : ByteArray)) else (some (⟨#[71, 69, 79, 77, 69, 84, 82, 89, 67, 79, 76, 76, 69, 67, 84, 73, 79, 78]⟩ : ByteArray)))))))) = some r := h
  clear h
  by_cases c2 : a0 = 1
  · rw [if_pos c2] at H
    have c2b0 : (a0 == 1) = true := beq_iff_eq.mpr c2
    have c2b1 : (a0 != 1) = false := bne_eq_false_iff_eq.mpr c2
    clear c2
    obtain rfl := Option.some.inj H
    go_enter Tryz.func30, Tryz.ntmps30
    go_wp2
    go_ret
    exact ⟨by first | rfl | (simp; done) | (simp [*]; done), by repeat (first | exact Drawn0.refl _ | apply Drawn0.step)⟩
  · rw [if_neg c2] at H
    have c2b0 : (a0 == 1) = false := beq_eq_false_iff_ne.mpr c2
    have c2b1 : (a0 != 1) = true := bne_iff_ne.mpr c2
    by_cases c3 : a0 = 2
    · rw [if_pos c3] at H
      have c3b0 : (a0 == 2) = true := beq_iff_eq.mpr c3
      have c3b1 : (a0 != 2) = false := bne_eq_false_iff_eq.mpr c3
      clear c3
      obtain rfl := Option.some.inj H
      go_enter Tryz.func30, Tryz.ntmps30
      go_wp2
      go_ret
      exact ⟨by first | rfl | (simp; done) | (simp [*]; done), by repeat (first | exact Drawn0.refl _ | apply Drawn0.step)⟩
    · rw [if_neg c3] at H
      have c3b0 : (a0 == 2) = false := beq_eq_false_iff_ne.mpr c3
      have c3b1 : (a0 != 2) = true := bne_iff_ne.mpr c3
      by_cases c4 : a0 = 3
      · rw [if_pos c4] at H
        have c4b0 : (a0 == 3) = true := beq_iff_eq.mpr c4
        have c4b1 : (a0 != 3) = false := bne_eq_false_iff_eq.mpr c4
        clear c4
        obtain rfl := Option.some.inj H
        go_enter Tryz.func30, Tryz.ntmps30
        go_wp2
        go_ret
        exact ⟨by first | rfl | (simp; done) | (simp [*]; done), by repeat (first | exact Drawn0.refl _ | apply Drawn0.step)⟩
      · rw [if_neg c4] at H
        have c4b0 : (a0 == 3) = false := beq_eq_false_iff_ne.mpr c4
        have c4b1 : (a0 != 3) = true := bne_iff_ne.mpr c4
        by_cases c5 : a0 = 4
        · rw [if_pos c5] at H
          have c5b0 : (a0 == 4) = true := beq_iff_eq.mpr c5
          have c5b1 : (a0 != 4) = false := bne_eq_false_iff_eq.mpr c5
          clear c5
          obtain rfl := Option.some.inj H
          go_enter Tryz.func30, Tryz.ntmps30
          go_wp2
          go_ret
          exact ⟨by first | rfl | (simp; done) | (simp [*]; done), by repeat (first | exact Drawn0.refl _ | apply Drawn0.step)⟩
        · rw [if_neg c5] at H
          have c5b0 : (a0 == 4) = false := beq_eq_false_iff_ne.mpr c5
          have c5b1 : (a0 != 4) = true := bne_iff_ne.mpr c5
          by_cases c6 : a0 = 5
          · rw [if_pos c6] at H
            have c6b0 : (a0 == 5) = true := beq_iff_eq.mpr c6
            have c6b1 : (a0 != 5) = false := bne_eq_false_iff_eq.mpr c6
            clear c6
            obtain rfl := Option.some.inj H
            go_enter Tryz.func30, Tryz.ntmps30
            go_wp2
            go_ret
            exact ⟨by first | rfl | (simp; done) | (simp [*]; done), by repeat (first | exact Drawn0.refl _ | apply Drawn0.step)⟩
          · rw [if_neg c6] at H
            have c6b0 : (a0 == 5) = false := beq_eq_false_iff_ne.mpr c6
            have c6b1 : (a0 != 5) = true := bne_iff_ne.mpr c6
            by_cases c7 : a0 = 6
            · rw [if_pos c7] at H
              have c7b0 : (a0 == 6) = true := beq_iff_eq.mpr c7
              have c7b1 : (a0 != 6) = false := bne_eq_false_iff_eq.mpr c7
              clear c7
              obtain rfl := Option.some.inj H
              go_enter Tryz.func30, Tryz.ntmps30
              go_wp2
              go_ret
              exact ⟨by first | rfl | (simp; done) | (simp [*]; done), by repeat (first | exact Drawn0.refl _ | apply Drawn0.step)⟩
            · rw [if_neg c7] at H
              have c7b0 : (a0 == 6) = false := beq_eq_false_iff_ne.mpr c7
              have c7b1 : (a0 != 6) = true := bne_iff_ne.mpr c7
              obtain rfl := Option.some.inj H
              go_enter Tryz.func30, Tryz.ntmps30
              go_wp2
              go_ret
              exact ⟨by first | rfl | (simp; done) | (simp [*]; done), by repeat (first | exact Drawn0.refl _ | apply Drawn0.step)⟩

/-! ### spec_dimName: function 31 -/
def spec_dimName.f (a0 : Int) : Option (ByteArray) := if a0 = 1 then (some (⟨#[90]⟩ : ByteArray)) else (if a0 = 2 then (some (⟨#[77]⟩ : ByteArray)) else (if a0 = 3 then (some (⟨#[90, 77]⟩ : ByteArray)) else (some (⟨#[]⟩ : ByteArray))))
set_option maxHeartbeats 8000000 in
set_option maxRecDepth 100000 in
theorem spec_dimName.calls (a0 : Int) (r : ByteArray) (w : World) (h : spec_dimName.f a0 = some r) :
    Calls Tryz.prog 31 #[.int .i64 a0] w fun e w' => e = .returned (.string r) ∧ Drawn0 w w' := by
  have H : (if a0 = 1 then (some (⟨#[90]⟩ : ByteArray)) else (if a0 = 2 then (some (⟨#[77]⟩ : ByteArray)) else (if a0 = 3 then (some (⟨#[90, 77]⟩ : ByteArray)) else (some (⟨#[]⟩ : ByteArray))))) = some r := h
  clear h
  by_cases c2 : a0 = 1
  · rw [if_pos c2] at H
    have c2b0 : (a0 == 1) = true := beq_iff_eq.mpr c2
    have c2b1 : (a0 != 1) = false := bne_eq_false_iff_eq.mpr c2
    clear c2
    obtain rfl := Option.some.inj H
    go_enter Tryz.func31, Tryz.ntmps31
    go_wp2
    go_ret
    exact ⟨by first | rfl | (simp; done) | (simp [*]; done), by repeat (first | exact Drawn0.refl _ | apply Drawn0.step)⟩
  · rw [if_neg c2] at H
    have c2b0 : (a0 == 1) = false := beq_eq_false_iff_ne.mpr c2
    have c2b1 : (a0 != 1) = true := bne_iff_ne.mpr c2
    by_cases c3 : a0 = 2
    · rw [if_pos c3] at H
      have c3b0 : (a0 == 2) = true := beq_iff_eq.mpr c3
      have c3b1 : (a0 != 2) = false := bne_eq_false_iff_eq.mpr c3
      clear c3
      obtain rfl := Option.some.inj H
      go_enter Tryz.func31, Tryz.ntmps31
      go_wp2
      go_ret
      exact ⟨by first | rfl | (simp; done) | (simp [*]; done), by repeat (first | exact Drawn0.refl _ | apply Drawn0.step)⟩
    · rw [if_neg c3] at H
      have c3b0 : (a0 == 2) = false := beq_eq_false_iff_ne.mpr c3
      have c3b1 : (a0 != 2) = true := bne_iff_ne.mpr c3
      by_cases c4 : a0 = 3
      · rw [if_pos c4] at H
        have c4b0 : (a0 == 3) = true := beq_iff_eq.mpr c4
        have c4b1 : (a0 != 3) = false := bne_eq_false_iff_eq.mpr c4
        clear c4
        obtain rfl := Option.some.inj H
        go_enter Tryz.func31, Tryz.ntmps31
        go_wp2
        go_ret
        exact ⟨by first | rfl | (simp; done) | (simp [*]; done), by repeat (first | exact Drawn0.refl _ | apply Drawn0.step)⟩
      · rw [if_neg c4] at H
        have c4b0 : (a0 == 3) = false := beq_eq_false_iff_ne.mpr c4
        have c4b1 : (a0 != 3) = true := bne_iff_ne.mpr c4
        obtain rfl := Option.some.inj H
        go_enter Tryz.func31, Tryz.ntmps31
        go_wp2
        go_ret
        exact ⟨by first | rfl | (simp; done) | (simp [*]; done), by repeat (first | exact Drawn0.refl _ | apply Drawn0.step)⟩

/-! ### spec_Width: function 34 -/
def spec_Width.f (a0 : Int) : Option (Int) := some (wrap64 ((wrap64 (2 + (Go.bits .and .i64 a0 1))) + (Go.bits .and .i64 (a0 / 2) 1)))
set_option maxHeartbeats 8000000 in
set_option maxRecDepth 100000 in
theorem spec_Width.calls (a0 : Int) (r : Int) (w : World) (h : spec_Width.f a0 = some r) :
    Calls Tryz.prog 34 #[.int .i64 a0] w fun e w' => e = .returned (.int .i64 r) ∧ Drawn0 w w' := by
  have H : (some (wrap64 ((wrap64 (2 + (Go.bits .and .i64 a0 1))) + (Go.bits .and .i64 (a0 / 2) 1)))) = some r := h
  clear h
  obtain rfl := Option.some.inj H
  go_enter Tryz.func34, Tryz.ntmps34
  go_wp2
  go_ret
  exact ⟨by first | rfl | (simp; done) | (simp [*]; done), by repeat (first | exact Drawn0.refl _ | apply Drawn0.step)⟩

end Go.Proofs.YtpbcfgehmalppaaGreatDoorW.QPt
