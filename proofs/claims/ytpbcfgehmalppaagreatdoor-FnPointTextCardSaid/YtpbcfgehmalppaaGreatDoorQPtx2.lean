/- What Go functions compute, as plain Lean functions, and that each call comes to just that (written by a program of this session). -/
import Derived.Test.YtpbcfgehmalppaaGreatDoorQPtx0
import Derived.Test.YtpbcfgehmalppaaGreatDoorQPtx1
namespace Go.Proofs.YtpbcfgehmalppaaGreatDoorW.QPt
open Go.RowKit Go.Proofs.YtpbcfgehmalppaaGreatDoorW.PrintWords Go.Proofs.YtpbcfgehmalppaaGreatDoorW.PrintLast Go.Proofs.YtpbcfgehmalppaaGreatDoorW.PrintMore
attribute [local go_sem] max2_int min2_int max_two min_two max_three min_three max_four min_four run_store_float fcmp_eql fcmp_neq fcmp_lss fcmp_leq fcmp_gtr fcmp_geq   -- for this text's walks alone
set_option linter.unusedVariables false
set_option linter.unusedSimpArgs false

/-! ### spec_Places: function 58 -/
mutual
def spec_Places.l0 : Nat → List Nat → Int → List (S88) → Int → Int → Option ((List (S88)))
  | 0, _, _, _, _, _ => none
  | k + 1, x0, x1, x5, x6, x7 => if (wrap64 (x7 + x6)) ≤ (x0.length : Int) then (if 0 ≤ x7 then (if x7 < (x0.length : Int) then (if 0 ≤ (wrap64 (x7 + 1)) then (if (wrap64 (x7 + 1)) < (x0.length : Int) then (if (Go.bits .and .i64 x1 1) = 1 then (if 0 ≤ (wrap64 (x7 + 2)) then (if (wrap64 (x7 + 2)) < (x0.length : Int) then (spec_Places.j1 k x0 x1 x5 x6 x7 (rdOf (0 : Nat) x0 x7) (rdOf (0 : Nat) x0 (wrap64 (x7 + 1))) (rdOf (0 : Nat) x0 (wrap64 (x7 + 2))) 0) else (none)) else (none)) else (spec_Places.j1 k x0 x1 x5 x6 x7 (rdOf (0 : Nat) x0 x7) (rdOf (0 : Nat) x0 (wrap64 (x7 + 1))) 0 0)) else (none)) else (none)) else (none)) else (none)) else (some x5)
def spec_Places.j1 : Nat → List Nat → Int → List (S88) → Int → Int → Nat → Nat → Nat → Nat → Option ((List (S88)))
  | 0, _, _, _, _, _, _, _, _, _ => none
  | k + 1, x0, x1, x5, x6, x7, x230000, x230001, x230002, x230003 => if (Go.bits .and .i64 x1 2) = 2 then (if 0 ≤ (wrap64 ((wrap64 (x7 + x6)) - 1)) then (if (wrap64 ((wrap64 (x7 + x6)) - 1)) < (x0.length : Int) then (if x5.length < 4398046511104 then (spec_Places.l0 k x0 x1 (x5 ++ [(⟨x230000, x230001, x230002, rdOf (0 : Nat) x0 (wrap64 ((wrap64 (x7 + x6)) - 1))⟩ : S88)]) x6 (wrap64 (x7 + x6))) else (none)) else (none)) else (none)) else (if x5.length < 4398046511104 then (spec_Places.l0 k x0 x1 (x5 ++ [(⟨x230000, x230001, x230002, x230003⟩ : S88)]) x6 (wrap64 (x7 + x6))) else (none))
end
def spec_Places.f (k : Nat) (l0 : List Nat) (a1 : Int) : Option ((List (S88))) := (spec_Width.f a1).bind fun t226 => (spec_Places.l0 k l0 a1 ([] : List (S88)) t226 0)
theorem spec_Places.mono_l : ∀ k, (∀ y0 y1 y2 y3 y4, LeO (spec_Places.l0 k y0 y1 y2 y3 y4) (spec_Places.l0 (k + 1) y0 y1 y2 y3 y4)) ∧ (∀ y0 y1 y2 y3 y4 y5 y6 y7 y8, LeO (spec_Places.j1 k y0 y1 y2 y3 y4 y5 y6 y7 y8) (spec_Places.j1 (k + 1) y0 y1 y2 y3 y4 y5 y6 y7 y8))
  | 0 => ⟨fun _ _ _ _ _ r h => by simp [spec_Places.l0] at h, fun _ _ _ _ _ _ _ _ _ r h => by simp [spec_Places.j1] at h⟩
  | k + 1 => by
    obtain ⟨ih0, ih1⟩ := spec_Places.mono_l k
    refine ⟨?_, ?_⟩
    · intro y0 y1 y2 y3 y4
      unfold spec_Places.l0
      repeat' first
      | (with_reducible exact ih0 _ _ _ _ _)
      | (with_reducible exact ih1 _ _ _ _ _ _ _ _ _)
      | (with_reducible exact LeO.refl _)
      | (with_reducible exact LeO.none _)
      | (with_reducible refine LeO.ite ?_ ?_)
      | (with_reducible refine LeO.bind ?_ (fun _ => ?_))
      | exact ih0 _ _ _ _ _
      | exact ih1 _ _ _ _ _ _ _ _ _
      | exact LeO.none _
      | refine LeO.ite ?_ ?_
      | refine LeO.bind ?_ (fun _ => ?_)
    · intro y0 y1 y2 y3 y4 y5 y6 y7 y8
      unfold spec_Places.j1
      repeat' first
      | (with_reducible exact ih0 _ _ _ _ _)
      | (with_reducible exact ih1 _ _ _ _ _ _ _ _ _)
      | (with_reducible exact LeO.refl _)
      | (with_reducible exact LeO.none _)
      | (with_reducible refine LeO.ite ?_ ?_)
      | (with_reducible refine LeO.bind ?_ (fun _ => ?_))
      | exact ih0 _ _ _ _ _
      | exact ih1 _ _ _ _ _ _ _ _ _
      | exact LeO.none _
      | refine LeO.ite ?_ ?_
      | refine LeO.bind ?_ (fun _ => ?_)
theorem spec_Places.mono : ∀ a0 a1 k, LeO (spec_Places.f k a0 a1) (spec_Places.f (k + 1) a0 a1) := by
  intro a0 a1 k
  obtain ⟨ih0, ih1⟩ := spec_Places.mono_l k
  unfold spec_Places.f
  repeat' first
      | (with_reducible exact ih0 _ _ _ _ _)
      | (with_reducible exact ih1 _ _ _ _ _ _ _ _ _)
      | (with_reducible exact LeO.refl _)
      | (with_reducible exact LeO.none _)
      | (with_reducible refine LeO.ite ?_ ?_)
      | (with_reducible refine LeO.bind ?_ (fun _ => ?_))
      | exact ih0 _ _ _ _ _
      | exact ih1 _ _ _ _ _ _ _ _ _
      | exact LeO.none _
      | refine LeO.ite ?_ ?_
      | refine LeO.bind ?_ (fun _ => ?_)
def spec_Places.T6 : Bool × List (List Nat × List Nat) := (true, [([], []), ([], []), ([0, 1], [0, 1]), ([2], [2]), ([], []), ([], []), ([5], [5]), ([4, 6], [4, 6]), ([7], [7]), ([3, 8], [3, 8]), ([], []), ([10, 9, 0, 1, 2, 3, 4, 5, 6, 7, 8, 9, 10], [9, 10])])
def spec_Places.B6 : List Nat := [0, 0, 3, 7, 0, 0, 32, 112, 240, 511, 0, 2047]
theorem spec_Places.tab6 : rtab .any (opsOf Tryz.f58 6) = spec_Places.T6 := by kernel_rfl
theorem spec_Places.bits6 : waitsOk spec_Places.T6.2 spec_Places.B6 = true := by kernel_rfl
set_option maxHeartbeats 8000000 in
set_option maxRecDepth 100000 in
theorem spec_Places.calls (k : Nat) (A0 : Option Addr) (c0 : Nat) (l0 : List Nat) (a1 : Int) (r : List (S88)) (w : World) (hr0 : Kd.C Kd.float w A0 l0.length l0) (hc0 : l0.length ≤ c0) (h : spec_Places.f k l0 a1 = some r) :
    Calls Tryz.prog 58 #[.slice A0 l0.length c0, .int .i64 a1] w fun e w' => ∃ v0_ : Value, e = .returned (v0_) ∧ Kd.R k88 88 w' w.heap.size (fun _ => True) v0_ r ∧ Below w.heap.size w w' := by
  have hu88 := Tryz.underlying88
  have HR0 := Aside0.mk hr0
  have HC0 := Aside0.mk hc0
  clear hr0 hc0
  have HB := Aside0.mk (Below.refl w.heap.size w)
  have H : ((spec_Width.f a1).bind fun t226 => (spec_Places.l0 k l0 a1 ([] : List (S88)) t226 0)) = some r := h
  clear h
  replace H := Option.bind_eq_some_iff.mp H
  obtain ⟨t226, A30, H⟩ := H
  replace H : (spec_Places.l0 k l0 a1 ([] : List (S88)) t226 0) = some r := H
  have A3 := Aside0.mk A30
  clear A30
  have H' := Aside0.mk H
  clear H
  go_enter Tryz.func58, Tryz.ntmps58
  go_wp2_with (first | ((with_reducible refine gate_callee (f := 34) rfl ?_); refine goesL_ (some 10) rfl rfl Tryz.func34 (by kernel_rfl) rfl #[.int .i64 a1] rfl (by (try simp only [List.map_toArray, List.map_cons, List.map_nil]); first | done | rfl | (simp only [List.length_drop, List.length_take]; rfl)) ?_; (with_reducible refine (spec_Width.calls a1 t226 _ A3.out).mono ?_); rintro e w' ⟨rfl, ⟨nd, rfl⟩⟩; refine ⟨_, rfl, ?_⟩))
  go_loopg [5, 7] k (fun kq v5 v7 w' => ∃ (x5_1 : List (S88)) (x7_1 : Int), v7 = .int .i64 x7_1 ∧ Aside0 (spec_Places.l0 kq l0 a1 x5_1 t226 x7_1 = some r) ∧ Aside0 (kq ≤ k) ∧ Aside0 (Kd.R k88 88 w' w.heap.size (fun _ => True) v5 x5_1) ∧ Aside0 (Below w.heap.size w w'))
  case atStart => exact ⟨(([] : List (S88))), (0), (by first | rfl | (simp; done) | (simp [*]; done)), H', ⟨Nat.le_refl _⟩, ⟨by first | exact Kd.R_nil _ _ _ _ _ | exact Kd.N_nil _ _ _ _ _ | exact Kd.V_nil _ _ _ _ _ | exact Kd.Q_nil _ _ _ _ _ | exact Kd.S_nil _ _ _ _ _⟩, ⟨by repeat (first | (with_reducible first | exact HB.out | apply below_alloc | apply pw_below_drewN | apply below_drew1) | exact HB.out)⟩⟩
  case round =>
    clear H'
    try clear p2
    try clear c3
    obtain ⟨x5_1, x7_1, rfl, HA, HK1, HO_5, HB⟩ := hrel
    cases gk with
    | zero => exact absurd HA.out (by simp [spec_Places.l0])
    | succ k1 =>
      have H := HA.out
      clear HA
      simp only [spec_Places.l0] at H
      by_cases c4 : (wrap64 (x7_1 + t226)) ≤ (l0.length : Int)
      · rw [if_pos c4] at H
        have c4b0 : decide ((wrap64 (x7_1 + t226)) ≤ (l0.length : Int)) = true := decide_eq_true c4
        clear c4
        by_cases c5 : 0 ≤ x7_1
        · rw [if_pos c5] at H
          have c5b0 : decide (0 ≤ x7_1) = true := decide_eq_true c5
          clear c5
          by_cases c6 : x7_1 < (l0.length : Int)
          · rw [if_pos c6] at H
            have c6b0 : decide (x7_1 < (l0.length : Int)) = true := decide_eq_true c6
            clear c6
            obtain ⟨ji7, hji7⟩ : ∃ j_ : Int, (wrap64 (x7_1 + 1)) = j_ := ⟨_, rfl⟩
            replace H : (if 0 ≤ (ji7) then (if (ji7) < (l0.length : Int) then (if (Go.bits .and .i64 a1 1) = 1 then (if 0 ≤ (wrap64 (x7_1 + 2)) then (if (wrap64 (x7_1 + 2)) < (l0.length : Int) then (spec_Places.j1 k1 l0 a1 x5_1 t226 x7_1 (rdOf (0 : Nat) l0 x7_1) (rdOf (0 : Nat) l0 (ji7)) (rdOf (0 : Nat) l0 (wrap64 (x7_1 + 2))) 0) else (none)) else (none)) else (spec_Places.j1 k1 l0 a1 x5_1 t226 x7_1 (rdOf (0 : Nat) l0 x7_1) (rdOf (0 : Nat) l0 (ji7)) 0 0)) else (none)) else (none)) = some r := by first | (rw [hji7] at H; exact H) | (simp only [hji7] at H ⊢; exact H)
            have hji7w : (IntKind.i64.wrap (x7_1 + 1)) = ji7 := (i64_w _).trans hji7
            by_cases c8 : 0 ≤ (ji7)
            · rw [if_pos c8] at H
              have c8b0 : decide (0 ≤ (ji7)) = true := decide_eq_true c8
              clear c8
              by_cases c9 : (ji7) < (l0.length : Int)
              · rw [if_pos c9] at H
                have c9b0 : decide ((ji7) < (l0.length : Int)) = true := decide_eq_true c9
                clear c9
                have HC10 := Aside0.mk H
                clear H
                try go_wp2
                have n0_ := Aside0.mk (Kd.R_drew HO_5.out)
                have n1_ := Aside0.mk (below_drew1 HB.out)
                clear HO_5
                clear HB
                have HO_5 := n0_
                have HB := n1_
                clear n0_ n1_
                have p227 : 0 ≤ (x7_1 : Int) := of_decide_eq_true (by first | (with_reducible assumption) | assumption)
                have q227 : x7_1 < (l0.length : Int) := of_decide_eq_true (by first | (with_reducible assumption) | assumption)
                obtain ⟨ad227, e227, hx227_0⟩ := Kd.at_float HR0.out x7_1 p227 q227
                have hw227_0 := hx227_0
                cases e227
                replace hx227_0 := (HB.out.cell (World.block_lt_of_cell? w _ hx227_0)).trans hx227_0
                replace p227 := eq_true p227
                replace q227 := eq_true q227
                have p228 : 0 ≤ ((ji7) : Int) := of_decide_eq_true (by first | (with_reducible assumption) | assumption)
                have q228 : (ji7) < (l0.length : Int) := of_decide_eq_true (by first | (with_reducible assumption) | assumption)
                obtain ⟨ad228, e228, hx228_0⟩ := Kd.at_float HR0.out (ji7) p228 q228
                have hw228_0 := hx228_0
                obtain rfl : ad227 = ad228 := (by injection e228)
                replace hx228_0 := (HB.out.cell (World.block_lt_of_cell? w _ hx228_0)).trans hx228_0
                replace p228 := eq_true p228
                replace q228 := eq_true q228
                refine start_ (n := 12) (S := fun w' => w'.cell? (ad227.add (x7_1).toNat) = some (.float .f64 (rdOf (0 : Nat) l0 x7_1)) ∧ w'.cell? (ad227.add ((ji7)).toNat) = some (.float .f64 (rdOf (0 : Nat) l0 (ji7)))) (ds := []) #[false, false, false, false, false, false, false, false, false, false, false, false] (by kernel_rfl) rfl rfl ⟨((HB.out.cell (World.block_lt_of_cell? w _ hw227_0)).trans hw227_0), ((HB.out.cell (World.block_lt_of_cell? w _ hw228_0)).trans hw228_0)⟩ (fun hHeld => ?_); refine with_tabW spec_Places.tab6 spec_Places.bits6 (fun HT_ HW_ => ?_)
                generalize wr.drew = w11 at HO_5 HB hx227_0 hx228_0 hHeld ⊢
                refine pure_ (i := 0) (N := some 20) (v := ?_) (a' := ?_) #[true, false, false, false, false, false, false, false, false, false, false, false] rfl rfl (any_of HT_.out (by kernel_rfl)) (fun _ _ _ h => h) (Or.inl ⟨by rfl, ?_⟩) ?_ ?_
                rotate_left
                · intro w'
                  go_simp
                  with_reducible rfl
                rotate_left
                · simp only [Act.put, List.setIfInBounds_toArray, List.set_cons_zero, List.set_cons_succ, i64_w, i32_w]
                  rfl
                refine pure_ (i := 1) (N := some 21) (v := ?_) (a' := ?_) #[true, true, false, false, false, false, false, false, false, false, false, false] rfl rfl (any_of HT_.out (by kernel_rfl)) (fun _ _ _ h => h) (Or.inl ⟨by rfl, ?_⟩) ?_ ?_
                rotate_left
                · intro w'
                  go_simp
                  with_reducible rfl
                rotate_left
                · simp only [Act.put, List.setIfInBounds_toArray, List.set_cons_zero, List.set_cons_succ, i64_w, i32_w]
                  rfl
                refine pure_ (i := 2) (N := some 22) (v := ?_) (a' := ?_) #[true, true, true, false, false, false, false, false, false, false, false, false] rfl rfl (any_of HT_.out (by kernel_rfl)) (fun _ _ _ h => h) (Or.inl ⟨by rfl, ?_⟩) ?_ ?_
                rotate_left
                · intro w'
                  go_simp
                  with_reducible rfl
                rotate_left
                · simp only [Act.put, List.setIfInBounds_toArray, List.set_cons_zero, List.set_cons_succ, i64_w, i32_w]
                  rfl
                refine pure_ (i := 4) (N := some 24) (v := ?_) (a' := ?_) #[true, true, true, false, true, false, false, false, false, false, false, false] rfl rfl (any_of HT_.out (by kernel_rfl)) (fun _ _ _ h => h) (Or.inl ⟨by rfl, ?_⟩) ?_ ?_
                rotate_left
                · intro w'
                  go_simp
                  with_reducible rfl
                rotate_left
                · simp only [Act.put, List.setIfInBounds_toArray, List.set_cons_zero, List.set_cons_succ, i64_w, i32_w]
                  rfl
                refine pure_ (i := 5) (N := some 25) (v := ?_) (a' := ?_) #[true, true, true, false, true, true, false, false, false, false, false, false] rfl rfl (any_of HT_.out (by kernel_rfl)) (fun _ _ _ h => h) (Or.inl ⟨by rfl, ?_⟩) ?_ ?_
                rotate_left
                · intro w'
                  go_simp
                  with_reducible rfl
                rotate_left
                · simp only [Act.put, List.setIfInBounds_toArray, List.set_cons_zero, List.set_cons_succ, i64_w, i32_w]
                  rfl
                refine pure_ (i := 6) (N := some 26) (v := ?_) (a' := ?_) #[true, true, true, false, true, true, true, false, false, false, false, false] rfl rfl (any_of HT_.out (by kernel_rfl)) (fun _ _ _ h => h) (Or.inl ⟨by rfl, ?_⟩) ?_ ?_
                rotate_left
                · intro w'
                  go_simp
                  with_reducible rfl
                rotate_left
                · simp only [Act.put, List.setIfInBounds_toArray, List.set_cons_zero, List.set_cons_succ, i64_w, i32_w]
                  rfl
                refine pure_ (i := 7) (N := some 27) (v := ?_) (a' := ?_) #[true, true, true, false, true, true, true, true, false, false, false, false] rfl rfl (any_of HT_.out (by kernel_rfl)) (fun _ _ _ h => h) (Or.inl ⟨by rfl, ?_⟩) ?_ ?_
                rotate_left
                · intro w'
                  go_simp
                  with_reducible rfl
                rotate_left
                · simp only [Act.put, List.setIfInBounds_toArray, List.set_cons_zero, List.set_cons_succ, i64_w, i32_w]
                  rfl
                refine take_ (i := 3) (N := some 23) (v := ?_) (a' := ?_) #[true, true, true, true, true, true, true, true, false, false, false, false] rfl rfl (take_ofW HT_.out HW_.out (by kernel_rfl)) (fun _ _ _ h => h) (Or.inl ⟨by rfl, ?_⟩) hHeld ?_ ?_
                rotate_left
                · rintro w' ⟨s0, s1⟩
                  go_simp
                  with_reducible rfl
                rotate_left
                · simp only [Act.put, List.setIfInBounds_toArray, List.set_cons_zero, List.set_cons_succ, i64_w, i32_w]
                  rfl
                refine take_ (i := 8) (N := some 28) (v := ?_) (a' := ?_) #[true, true, true, true, true, true, true, true, true, false, false, false] rfl rfl (take_ofW HT_.out HW_.out (by kernel_rfl)) (fun _ _ _ h => h) (Or.inl ⟨by rfl, ?_⟩) hHeld ?_ ?_
                rotate_left
                · rintro w' ⟨s0, s1⟩
                  go_simp
                  with_reducible rfl
                rotate_left
                · simp only [Act.put, List.setIfInBounds_toArray, List.set_cons_zero, List.set_cons_succ, i64_w, i32_w]
                  rfl
                refine pure_ (i := 9) (N := some 29) (v := ?_) (a' := ?_) #[true, true, true, true, true, true, true, true, true, true, false, false] rfl rfl (any_of HT_.out (by kernel_rfl)) (fun _ _ _ h => h) (Or.inl ⟨by rfl, ?_⟩) ?_ ?_
                rotate_left
                · intro w'
                  go_simp
                  with_reducible rfl
                rotate_left
                · simp only [Act.put, List.setIfInBounds_toArray, List.set_cons_zero, List.set_cons_succ, i64_w, i32_w]
                  rfl
                refine one_ (i := 10) (N := some 8) #[true, true, true, true, true, true, true, true, true, true, true, false] rfl rfl (one_of HT_.out (by kernel_rfl)) (by decide) (fun K hK => ?_)
                refine box_step ?hg (N := 8) ?hd (cs := #[.float .f64 0, .float .f64 0, .float .f64 0, .float .f64 0]) (t := 88) ?hr ?_; (case hd => rfl); (case hg => rfl); (case hr => first | (go_simp; done) | (go_simp; rfl))
                intro gb229 hg w12 hbox hb
                have n0_ := Aside0.mk (Kd.R_below (Kd.R_elderB (by (with_reducible repeat (first | apply Kd.R_alloc | apply Kd.R_drewN | apply Kd.R_drew)); exact HO_5.out) gb229 (Nat.le_of_eq hg.symm)) hb)
                have n1_ := Aside0.mk (below_step (by repeat (first | (with_reducible first | exact HB.out | apply below_alloc | apply pw_below_drewN | apply below_drew1) | exact HB.out)) hb)
                have n2_ := Aside0.mk (hbox)
                have n3_ := Aside0.mk ((by rw [hg]; exact (below_size (by repeat (first | (with_reducible first | exact HB.out | apply below_alloc | apply pw_below_drewN | apply below_drew1) | exact HB.out))) : w.heap.size ≤ gb229))
                have n4_ := Aside0.mk ((by rw [hg]; exact (below_size (by repeat (first | (with_reducible first | exact HB.out | apply below_alloc | apply pw_below_drewN | apply below_drew1) | exact HB.out))) : w.heap.size ≤ gb229))
                clear HO_5
                clear HB
                have HO_5 := n0_
                have HB := n1_
                have BK229 := n2_
                have GW229 := n3_
                have GE229 := n4_
                clear n0_ n1_ n2_ n3_ n4_
                clear hb hbox hg
                refine hK.out _ _ ⟨((HB.out.cell (World.block_lt_of_cell? w _ hw227_0)).trans hw227_0), ((HB.out.cell (World.block_lt_of_cell? w _ hw228_0)).trans hw228_0)⟩ (fun hHeld => ?_)
                clear hK K
                refine norm_ (a' := ?_) ?_ ?_
                rotate_left
                · show Act.put _ (some 8) _ = _
                  simp only [Act.put, List.setIfInBounds_toArray, List.set_cons_zero, List.set_cons_succ, i64_w, i32_w]
                  rfl
                refine one_ (i := 11) (N := none) #[true, true, true, true, true, true, true, true, true, true, true, true] rfl rfl (one_of HT_.out (by kernel_rfl)) (by decide) (fun K hK => ?_)
                have hs13 : w12.cell? ⟨gb229, 0, none⟩ = some (.float .f64 0) := (blk_cell BK229.out 0).trans rfl
                have hfs13 := blk_frozen BK229.out 0
                have hs14 : w12.cell? ⟨gb229, 1, none⟩ = some (.float .f64 0) := (blk_cell BK229.out 1).trans rfl
                have hfs14 := blk_frozen BK229.out 1
                have hs15 : w12.cell? ⟨gb229, 2, none⟩ = some (.float .f64 0) := (blk_cell BK229.out 2).trans rfl
                have hfs15 := blk_frozen BK229.out 2
                have hs16 : w12.cell? ⟨gb229, 3, none⟩ = some (.float .f64 0) := (blk_cell BK229.out 3).trans rfl
                have hfs16 := blk_frozen BK229.out 3
                refine skip_ (w1 := ?_) (by rfl) rfl ?_ ?_
                rotate_left
                · go_simp
                  rfl
                refine hK.out _ _ ⟨((cell_far (p := ⟨gb229, _, none⟩) (by first | exact Nat.ne_of_lt (Nat.lt_of_lt_of_le (by have := World.block_lt_of_cell? _ _ hw227_0; first | rwa [add_block] at this | exact this) GW229.out) | (rw [add_block]; exact Nat.ne_of_lt (Nat.lt_of_lt_of_le (by have := World.block_lt_of_cell? _ _ hw227_0; first | rwa [add_block] at this | exact this) GW229.out)) | (show (Addr.add _ _).block ≠ _; rw [add_block]; exact Nat.ne_of_lt (Nat.lt_of_lt_of_le (by have := World.block_lt_of_cell? _ _ hw227_0; first | rwa [add_block] at this | exact this) GW229.out)) | (dsimp only; exact Nat.ne_of_lt (Nat.lt_of_lt_of_le (by have := World.block_lt_of_cell? _ _ hw227_0; first | rwa [add_block] at this | exact this) GW229.out))) _).trans (((cell_far (p := ⟨gb229, _, none⟩) (by first | exact Nat.ne_of_lt (Nat.lt_of_lt_of_le (by have := World.block_lt_of_cell? _ _ hw227_0; first | rwa [add_block] at this | exact this) GW229.out) | (rw [add_block]; exact Nat.ne_of_lt (Nat.lt_of_lt_of_le (by have := World.block_lt_of_cell? _ _ hw227_0; first | rwa [add_block] at this | exact this) GW229.out)) | (show (Addr.add _ _).block ≠ _; rw [add_block]; exact Nat.ne_of_lt (Nat.lt_of_lt_of_le (by have := World.block_lt_of_cell? _ _ hw227_0; first | rwa [add_block] at this | exact this) GW229.out)) | (dsimp only; exact Nat.ne_of_lt (Nat.lt_of_lt_of_le (by have := World.block_lt_of_cell? _ _ hw227_0; first | rwa [add_block] at this | exact this) GW229.out))) _).trans (((cell_far (p := ⟨gb229, _, none⟩) (by first | exact Nat.ne_of_lt (Nat.lt_of_lt_of_le (by have := World.block_lt_of_cell? _ _ hw227_0; first | rwa [add_block] at this | exact this) GW229.out) | (rw [add_block]; exact Nat.ne_of_lt (Nat.lt_of_lt_of_le (by have := World.block_lt_of_cell? _ _ hw227_0; first | rwa [add_block] at this | exact this) GW229.out)) | (show (Addr.add _ _).block ≠ _; rw [add_block]; exact Nat.ne_of_lt (Nat.lt_of_lt_of_le (by have := World.block_lt_of_cell? _ _ hw227_0; first | rwa [add_block] at this | exact this) GW229.out)) | (dsimp only; exact Nat.ne_of_lt (Nat.lt_of_lt_of_le (by have := World.block_lt_of_cell? _ _ hw227_0; first | rwa [add_block] at this | exact this) GW229.out))) _).trans (((cell_far (p := ⟨gb229, _, none⟩) (by first | exact Nat.ne_of_lt (Nat.lt_of_lt_of_le (by have := World.block_lt_of_cell? _ _ hw227_0; first | rwa [add_block] at this | exact this) GW229.out) | (rw [add_block]; exact Nat.ne_of_lt (Nat.lt_of_lt_of_le (by have := World.block_lt_of_cell? _ _ hw227_0; first | rwa [add_block] at this | exact this) GW229.out)) | (show (Addr.add _ _).block ≠ _; rw [add_block]; exact Nat.ne_of_lt (Nat.lt_of_lt_of_le (by have := World.block_lt_of_cell? _ _ hw227_0; first | rwa [add_block] at this | exact this) GW229.out)) | (dsimp only; exact Nat.ne_of_lt (Nat.lt_of_lt_of_le (by have := World.block_lt_of_cell? _ _ hw227_0; first | rwa [add_block] at this | exact this) GW229.out))) _).trans (hHeld.1)))))))), ((cell_far (p := ⟨gb229, _, none⟩) (by first | exact Nat.ne_of_lt (Nat.lt_of_lt_of_le (by have := World.block_lt_of_cell? _ _ hw228_0; first | rwa [add_block] at this | exact this) GW229.out) | (rw [add_block]; exact Nat.ne_of_lt (Nat.lt_of_lt_of_le (by have := World.block_lt_of_cell? _ _ hw228_0; first | rwa [add_block] at this | exact this) GW229.out)) | (show (Addr.add _ _).block ≠ _; rw [add_block]; exact Nat.ne_of_lt (Nat.lt_of_lt_of_le (by have := World.block_lt_of_cell? _ _ hw228_0; first | rwa [add_block] at this | exact this) GW229.out)) | (dsimp only; exact Nat.ne_of_lt (Nat.lt_of_lt_of_le (by have := World.block_lt_of_cell? _ _ hw228_0; first | rwa [add_block] at this | exact this) GW229.out))) _).trans (((cell_far (p := ⟨gb229, _, none⟩) (by first | exact Nat.ne_of_lt (Nat.lt_of_lt_of_le (by have := World.block_lt_of_cell? _ _ hw228_0; first | rwa [add_block] at this | exact this) GW229.out) | (rw [add_block]; exact Nat.ne_of_lt (Nat.lt_of_lt_of_le (by have := World.block_lt_of_cell? _ _ hw228_0; first | rwa [add_block] at this | exact this) GW229.out)) | (show (Addr.add _ _).block ≠ _; rw [add_block]; exact Nat.ne_of_lt (Nat.lt_of_lt_of_le (by have := World.block_lt_of_cell? _ _ hw228_0; first | rwa [add_block] at this | exact this) GW229.out)) | (dsimp only; exact Nat.ne_of_lt (Nat.lt_of_lt_of_le (by have := World.block_lt_of_cell? _ _ hw228_0; first | rwa [add_block] at this | exact this) GW229.out))) _).trans (((cell_far (p := ⟨gb229, _, none⟩) (by first | exact Nat.ne_of_lt (Nat.lt_of_lt_of_le (by have := World.block_lt_of_cell? _ _ hw228_0; first | rwa [add_block] at this | exact this) GW229.out) | (rw [add_block]; exact Nat.ne_of_lt (Nat.lt_of_lt_of_le (by have := World.block_lt_of_cell? _ _ hw228_0; first | rwa [add_block] at this | exact this) GW229.out)) | (show (Addr.add _ _).block ≠ _; rw [add_block]; exact Nat.ne_of_lt (Nat.lt_of_lt_of_le (by have := World.block_lt_of_cell? _ _ hw228_0; first | rwa [add_block] at this | exact this) GW229.out)) | (dsimp only; exact Nat.ne_of_lt (Nat.lt_of_lt_of_le (by have := World.block_lt_of_cell? _ _ hw228_0; first | rwa [add_block] at this | exact this) GW229.out))) _).trans (((cell_far (p := ⟨gb229, _, none⟩) (by first | exact Nat.ne_of_lt (Nat.lt_of_lt_of_le (by have := World.block_lt_of_cell? _ _ hw228_0; first | rwa [add_block] at this | exact this) GW229.out) | (rw [add_block]; exact Nat.ne_of_lt (Nat.lt_of_lt_of_le (by have := World.block_lt_of_cell? _ _ hw228_0; first | rwa [add_block] at this | exact this) GW229.out)) | (show (Addr.add _ _).block ≠ _; rw [add_block]; exact Nat.ne_of_lt (Nat.lt_of_lt_of_le (by have := World.block_lt_of_cell? _ _ hw228_0; first | rwa [add_block] at this | exact this) GW229.out)) | (dsimp only; exact Nat.ne_of_lt (Nat.lt_of_lt_of_le (by have := World.block_lt_of_cell? _ _ hw228_0; first | rwa [add_block] at this | exact this) GW229.out))) _).trans (hHeld.2))))))))⟩ (fun hHeld => ?_)
                clear hK K
                refine done_ (done_of HT_.out (by kernel_rfl)) ?_
                go_upto_if 32 with (fail)
                go_cut [] (fun wc => ∃ (kq : Nat) (x230002_9 : Nat), Aside0 (spec_Places.j1 kq l0 a1 x5_1 t226 x7_1 (rdOf (0 : Nat) l0 x7_1) (rdOf (0 : Nat) l0 (ji7)) x230002_9 0 = some r) ∧ Aside0 (kq ≤ k1) ∧ Aside0 (Kd.R k88 88 wc w.heap.size (fun k_ => k_ ≠ gb229) u5 x5_1) ∧ Aside0 (wc.heap[gb229]? = some (.cells #[.float .f64 (rdOf (0 : Nat) l0 x7_1), .float .f64 (rdOf (0 : Nat) l0 (ji7)), .float .f64 x230002_9, .float .f64 0] 88 (0, 0))) ∧ Aside0 (Below w.heap.size w wc))
                case first =>
                  have H := HC10.out
                  clear HC10
                  by_cases c17 : (Go.bits .and .i64 a1 1) = 1
                  · rw [if_pos c17] at H
                    have c17b0 : ((Go.bits .and .i64 a1 1) == 1) = true := beq_iff_eq.mpr c17
                    have c17b1 : ((Go.bits .and .i64 a1 1) != 1) = false := bne_eq_false_iff_eq.mpr c17
                    clear c17
                    (first | rw [c17b0] | (simp only [i64_w, i32_w]; rw [c17b0]) | rw [c17b1] | skip)
                    obtain ⟨ji18, hji18⟩ : ∃ j_ : Int, (wrap64 (x7_1 + 2)) = j_ := ⟨_, rfl⟩
                    replace H : (if 0 ≤ (ji18) then (if (ji18) < (l0.length : Int) then (spec_Places.j1 k1 l0 a1 x5_1 t226 x7_1 (rdOf (0 : Nat) l0 x7_1) (rdOf (0 : Nat) l0 (ji7)) (rdOf (0 : Nat) l0 (ji18)) 0) else (none)) else (none)) = some r := by first | (rw [hji18] at H; exact H) | (simp only [hji18] at H ⊢; exact H)
                    have hji18w : (IntKind.i64.wrap (x7_1 + 2)) = ji18 := (i64_w _).trans hji18
                    by_cases c19 : 0 ≤ (ji18)
                    · rw [if_pos c19] at H
                      have c19b0 : decide (0 ≤ (ji18)) = true := decide_eq_true c19
                      clear c19
                      by_cases c20 : (ji18) < (l0.length : Int)
                      · rw [if_pos c20] at H
                        have c20b0 : decide ((ji18) < (l0.length : Int)) = true := decide_eq_true c20
                        clear c20
                        have H' := Aside0.mk H
                        clear H
                        have p230 : 0 ≤ ((ji18) : Int) := of_decide_eq_true (by first | (with_reducible assumption) | assumption)
                        have q230 : (ji18) < (l0.length : Int) := of_decide_eq_true (by first | (with_reducible assumption) | assumption)
                        obtain ⟨ad230, e230, hx230_0⟩ := Kd.at_float HR0.out (ji18) p230 q230
                        obtain rfl : ad227 = ad230 := (by injection e230)
                        have hn230_0 : ad227.block ≠ gb229 := Nat.ne_of_lt (Nat.lt_of_lt_of_le (by have := World.block_lt_of_cell? _ _ hx230_0; first | rwa [add_block] at this | exact this) GW229.out)
                        have hn230_1 : ad227.block ≠ gb229 := Nat.ne_of_lt (Nat.lt_of_lt_of_le (by have := World.block_lt_of_cell? _ _ hx230_0; first | rwa [add_block] at this | exact this) GW229.out)
                        have hn230_2 : ad227.block ≠ gb229 := Nat.ne_of_lt (Nat.lt_of_lt_of_le (by have := World.block_lt_of_cell? _ _ hx230_0; first | rwa [add_block] at this | exact this) GW229.out)
                        have hn230_3 : ad227.block ≠ gb229 := Nat.ne_of_lt (Nat.lt_of_lt_of_le (by have := World.block_lt_of_cell? _ _ hx230_0; first | rwa [add_block] at this | exact this) GW229.out)
                        replace hx230_0 := (HB.out.cell (World.block_lt_of_cell? w _ hx230_0)).trans hx230_0
                        replace hx230_0 := (cell_far (p := ⟨gb229, 0, none⟩) (by first | (rw [add_block]; exact hn230_0) | (show (Addr.add _ _).block ≠ _; rw [add_block]; exact hn230_0) | exact hn230_0) (.float .f64 (rdOf (0 : Nat) l0 x7_1))).trans hx230_0
                        replace hx230_0 := (cell_far (p := ⟨gb229, 1, none⟩) (by first | (rw [add_block]; exact hn230_1) | (show (Addr.add _ _).block ≠ _; rw [add_block]; exact hn230_1) | exact hn230_1) (.float .f64 (rdOf (0 : Nat) l0 (ji7)))).trans hx230_0
                        replace hx230_0 := (cell_far (p := ⟨gb229, 2, none⟩) (by first | (rw [add_block]; exact hn230_2) | (show (Addr.add _ _).block ≠ _; rw [add_block]; exact hn230_2) | exact hn230_2) (.float .f64 0)).trans hx230_0
                        replace hx230_0 := (cell_far (p := ⟨gb229, 3, none⟩) (by first | (rw [add_block]; exact hn230_3) | (show (Addr.add _ _).block ≠ _; rw [add_block]; exact hn230_3) | exact hn230_3) (.float .f64 0)).trans hx230_0
                        clear hn230_0
                        clear hn230_1
                        clear hn230_2
                        clear hn230_3
                        replace p230 := eq_true p230
                        replace q230 := eq_true q230
                        have hcz21_0 : w12.cell? ⟨gb229, 0, none⟩ = some (.float .f64 0) := (blk_cell BK229.out 0).trans rfl
                        have hcz21_1 : w12.cell? ⟨gb229, 1, none⟩ = some (.float .f64 0) := (blk_cell BK229.out 1).trans rfl
                        have hcz21_2 : w12.cell? ⟨gb229, 2, none⟩ = some (.float .f64 0) := (blk_cell BK229.out 2).trans rfl
                        have hcz21_3 : w12.cell? ⟨gb229, 3, none⟩ = some (.float .f64 0) := (blk_cell BK229.out 3).trans rfl
                        have hfz21_0 := blk_frozen BK229.out 0
                        have hfz21_1 := blk_frozen BK229.out 1
                        have hfz21_2 := blk_frozen BK229.out 2
                        have hfz21_3 := blk_frozen BK229.out 3
                        go_wp2
                        go_meet
                        case rel => exact ⟨_, (rdOf (0 : Nat) l0 (ji18)), H', ⟨by have := HK1.out; first | omega | exact Nat.le_refl _⟩, ⟨by (with_reducible repeat (first | apply Kd.R_alloc | apply Kd.R_drewN | apply Kd.R_drew)); exact Kd.R_mono (Kd.R_far (p := ⟨gb229, 2, none⟩) (Kd.R_far (p := ⟨gb229, 3, none⟩) (Kd.R_far (p := ⟨gb229, 2, none⟩) (Kd.R_far (p := ⟨gb229, 1, none⟩) (Kd.R_far (p := ⟨gb229, 0, none⟩) (Kd.R_mono HO_5.out (fun k_ hk => (⟨hk, hk.2⟩ : _ ∧ k_ ≠ gb229))) (fun _ hk => hk.2) (.float .f64 (rdOf (0 : Nat) l0 x7_1))) (fun _ hk => hk.2) (.float .f64 (rdOf (0 : Nat) l0 (ji7)))) (fun _ hk => hk.2) (.float .f64 0)) (fun _ hk => hk.2) (.float .f64 0)) (fun _ hk => hk.2) (.float .f64 (rdOf (0 : Nat) l0 (ji18)))) (fun _ hk => hk.1.2)⟩, ⟨by (with_reducible repeat (first | refine blk_drewN ?_ _ | refine blk_drew ?_ | refine blk_alloc ?_ _)); refine blk_put (cs := #[.float .f64 (rdOf (0 : Nat) l0 x7_1), .float .f64 (rdOf (0 : Nat) l0 (ji7)), .float .f64 0, .float .f64 0]) ?_ 2 _ rfl; (with_reducible repeat (first | refine blk_drewN ?_ _ | refine blk_drew ?_ | refine blk_alloc ?_ _)); refine blk_put (cs := #[.float .f64 (rdOf (0 : Nat) l0 x7_1), .float .f64 (rdOf (0 : Nat) l0 (ji7)), .float .f64 0, .float .f64 0]) ?_ 3 _ rfl; (with_reducible repeat (first | refine blk_drewN ?_ _ | refine blk_drew ?_ | refine blk_alloc ?_ _)); refine blk_put (cs := #[.float .f64 (rdOf (0 : Nat) l0 x7_1), .float .f64 (rdOf (0 : Nat) l0 (ji7)), .float .f64 0, .float .f64 0]) ?_ 2 _ rfl; (with_reducible repeat (first | refine blk_drewN ?_ _ | refine blk_drew ?_ | refine blk_alloc ?_ _)); refine blk_put (cs := #[.float .f64 (rdOf (0 : Nat) l0 x7_1), .float .f64 0, .float .f64 0, .float .f64 0]) ?_ 1 _ rfl; (with_reducible repeat (first | refine blk_drewN ?_ _ | refine blk_drew ?_ | refine blk_alloc ?_ _)); refine blk_put (cs := #[.float .f64 0, .float .f64 0, .float .f64 0, .float .f64 0]) ?_ 0 _ rfl; (with_reducible repeat (first | refine blk_drewN ?_ _ | refine blk_drew ?_ | refine blk_alloc ?_ _)); exact BK229.out⟩, ⟨by repeat (first | (with_reducible first | exact HB.out | apply below_alloc | apply pw_below_drewN | apply below_drew1 | refine below_set ?_ GE229.out) | exact HB.out)⟩⟩
                      · rw [if_neg c20] at H
                        exact absurd H (by simp)
                    · rw [if_neg c19] at H
                      exact absurd H (by simp)
                  · rw [if_neg c17] at H
                    have c17b0 : ((Go.bits .and .i64 a1 1) == 1) = false := beq_eq_false_iff_ne.mpr c17
                    have c17b1 : ((Go.bits .and .i64 a1 1) != 1) = true := bne_iff_ne.mpr c17
                    (first | rw [c17b0] | (simp only [i64_w, i32_w]; rw [c17b0]) | rw [c17b1] | skip)
                    have H' := Aside0.mk H
                    clear H
                    go_wp2
                    go_meet
                    case rel => exact ⟨_, (0), H', ⟨by have := HK1.out; first | omega | exact Nat.le_refl _⟩, ⟨by (with_reducible repeat (first | apply Kd.R_alloc | apply Kd.R_drewN | apply Kd.R_drew)); exact Kd.R_mono (Kd.R_far (p := ⟨gb229, 3, none⟩) (Kd.R_far (p := ⟨gb229, 2, none⟩) (Kd.R_far (p := ⟨gb229, 1, none⟩) (Kd.R_far (p := ⟨gb229, 0, none⟩) (Kd.R_mono HO_5.out (fun k_ hk => (⟨hk, hk.2⟩ : _ ∧ k_ ≠ gb229))) (fun _ hk => hk.2) (.float .f64 (rdOf (0 : Nat) l0 x7_1))) (fun _ hk => hk.2) (.float .f64 (rdOf (0 : Nat) l0 (ji7)))) (fun _ hk => hk.2) (.float .f64 0)) (fun _ hk => hk.2) (.float .f64 0)) (fun _ hk => hk.1.2)⟩, ⟨by (with_reducible repeat (first | refine blk_drewN ?_ _ | refine blk_drew ?_ | refine blk_alloc ?_ _)); refine blk_put (cs := #[.float .f64 (rdOf (0 : Nat) l0 x7_1), .float .f64 (rdOf (0 : Nat) l0 (ji7)), .float .f64 0, .float .f64 0]) ?_ 3 _ rfl; (with_reducible repeat (first | refine blk_drewN ?_ _ | refine blk_drew ?_ | refine blk_alloc ?_ _)); refine blk_put (cs := #[.float .f64 (rdOf (0 : Nat) l0 x7_1), .float .f64 (rdOf (0 : Nat) l0 (ji7)), .float .f64 0, .float .f64 0]) ?_ 2 _ rfl; (with_reducible repeat (first | refine blk_drewN ?_ _ | refine blk_drew ?_ | refine blk_alloc ?_ _)); refine blk_put (cs := #[.float .f64 (rdOf (0 : Nat) l0 x7_1), .float .f64 0, .float .f64 0, .float .f64 0]) ?_ 1 _ rfl; (with_reducible repeat (first | refine blk_drewN ?_ _ | refine blk_drew ?_ | refine blk_alloc ?_ _)); refine blk_put (cs := #[.float .f64 0, .float .f64 0, .float .f64 0, .float .f64 0]) ?_ 0 _ rfl; (with_reducible repeat (first | refine blk_drewN ?_ _ | refine blk_drew ?_ | refine blk_alloc ?_ _)); exact BK229.out⟩, ⟨by repeat (first | (with_reducible first | exact HB.out | apply below_alloc | apply pw_below_drewN | apply below_drew1 | refine below_set ?_ GE229.out) | exact HB.out)⟩⟩
                case rest =>
                  clear HC10
                  try clear c1
                  try clear c2
                  try clear p2
                  try clear q2
                  try clear hx2
                  try clear c3
                  try clear c4
                  try clear c4b0
                  try clear c5
                  try clear c5b0
                  try clear c6
                  try clear c6b0
                  try clear p6
                  try clear c8
                  try clear c8b0
                  try clear c9
                  try clear c9b0
                  try clear c17
                  try clear c17b0
                  try clear c17b1
                  try clear c19
                  try clear c19b0
                  try clear c20
                  try clear c20b0
                  try clear hcz21_0
                  try clear hcz21_1
                  try clear hcz21_2
                  try clear hcz21_3
                  try clear hfz21_0
                  try clear hfz21_1
                  try clear hfz21_2
                  try clear hfz21_3
                  try clear hx227_0
                  try clear hx228_0
                  try clear hx230_0
                  try clear p2
                  try clear p227
                  try clear p228
                  try clear p230
                  try clear q227
                  try clear q228
                  try clear q230
                  obtain ⟨kq, x230002_9, HA, HJ9, HO_5, BK229, HB⟩ := hcut
                  cases kq with
                  | zero => exact absurd HA.out (by simp [spec_Places.j1])
                  | succ kj9 =>
                    have H := HA.out
                    clear HA
                    simp only [spec_Places.j1] at H
                    by_cases c22 : (Go.bits .and .i64 a1 2) = 2
                    · rw [if_pos c22] at H
                      have c22b0 : ((Go.bits .and .i64 a1 2) == 2) = true := beq_iff_eq.mpr c22
                      have c22b1 : ((Go.bits .and .i64 a1 2) != 2) = false := bne_eq_false_iff_eq.mpr c22
                      clear c22
                      obtain ⟨ji23, hji23⟩ : ∃ j_ : Int, (wrap64 ((wrap64 (x7_1 + t226)) - 1)) = j_ := ⟨_, rfl⟩
                      replace H : (if 0 ≤ (ji23) then (if (ji23) < (l0.length : Int) then (if x5_1.length < 4398046511104 then (spec_Places.l0 kj9 l0 a1 (x5_1 ++ [(⟨(rdOf (0 : Nat) l0 x7_1), (rdOf (0 : Nat) l0 (ji7)), x230002_9, rdOf (0 : Nat) l0 (ji23)⟩ : S88)]) t226 (wrap64 (x7_1 + t226))) else (none)) else (none)) else (none)) = some r := by first | (rw [hji23] at H; exact H) | (simp only [hji23] at H ⊢; exact H)
                      have hji23w : (IntKind.i64.wrap ((wrap64 (x7_1 + t226)) - 1)) = ji23 := (i64_w _).trans hji23
                      by_cases c24 : 0 ≤ (ji23)
                      · rw [if_pos c24] at H
                        have c24b0 : decide (0 ≤ (ji23)) = true := decide_eq_true c24
                        clear c24
                        by_cases c25 : (ji23) < (l0.length : Int)
                        · rw [if_pos c25] at H
                          have c25b0 : decide ((ji23) < (l0.length : Int)) = true := decide_eq_true c25
                          clear c25
                          by_cases c26 : x5_1.length < 4398046511104
                          · rw [if_pos c26] at H
                            have LMc26 := Aside0.mk c26
                            clear c26
                            obtain ⟨y232, hy232⟩ : ∃ y_ : List (S88), y_ = (x5_1 ++ [(⟨(rdOf (0 : Nat) l0 x7_1), (rdOf (0 : Nat) l0 (ji7)), x230002_9, rdOf (0 : Nat) l0 (ji23)⟩ : S88)]) := ⟨_, rfl⟩
                            replace H : (spec_Places.l0 kj9 l0 a1 y232 t226 (wrap64 (x7_1 + t226))) = some r := by first | (rw [hy232]; with_reducible exact H) | (have H2_ := (Option.bind_some _ _).symm.trans H; rw [hy232]; with_reducible exact H2_) | (have H2_ := (Option.bind_some _ _).symm.trans H; with_reducible exact H2_) | with_reducible exact H | (rw [hy232]; exact H) | exact H
                            have Ny232 := Aside0.mk hy232
                            clear hy232
                            have H' := Aside0.mk H
                            clear H
                            have p231 : 0 ≤ ((ji23) : Int) := of_decide_eq_true (by first | (with_reducible assumption) | assumption)
                            have q231 : (ji23) < (l0.length : Int) := of_decide_eq_true (by first | (with_reducible assumption) | assumption)
                            obtain ⟨ad231, e231, hx231_0⟩ := Kd.at_float HR0.out (ji23) p231 q231
                            obtain rfl : ad227 = ad231 := (by injection e231)
                            replace hx231_0 := (HB.out.cell (World.block_lt_of_cell? w _ hx231_0)).trans hx231_0
                            replace p231 := eq_true p231
                            replace q231 := eq_true q231
                            have hcz27_0 : wc.cell? ⟨gb229, 0, none⟩ = some (.float .f64 (rdOf (0 : Nat) l0 x7_1)) := (blk_cell BK229.out 0).trans rfl
                            have hcz27_1 : wc.cell? ⟨gb229, 1, none⟩ = some (.float .f64 (rdOf (0 : Nat) l0 (ji7))) := (blk_cell BK229.out 1).trans rfl
                            have hcz27_2 : wc.cell? ⟨gb229, 2, none⟩ = some (.float .f64 x230002_9) := (blk_cell BK229.out 2).trans rfl
                            have hcz27_3 : wc.cell? ⟨gb229, 3, none⟩ = some (.float .f64 0) := (blk_cell BK229.out 3).trans rfl
                            have hfz27_0 := blk_frozen BK229.out 0
                            have hfz27_1 := blk_frozen BK229.out 1
                            have hfz27_2 := blk_frozen BK229.out 2
                            have hfz27_3 := blk_frozen BK229.out 3
                            go_wp2_with (first | ((with_reducible refine gate_builtin (b := .append) (xs := #[.tmp 50, .tmp 52]) rfl ?_); at_builtin; refine Kd.R_append k88 (w0 := w) w.heap.size rfl (.tmp 50) (.tmp 52) 85 88 (.agg #[(.float .f64 0), (.float .f64 0), (.float .f64 0), (.float .f64 0)]) 32 rfl Tryz.underlying85 info88 rfl (by decide) (by omega) u5 x5_1 (⟨(rdOf (0 : Nat) l0 x7_1), (rdOf (0 : Nat) l0 (ji7)), x230002_9, rdOf (0 : Nat) l0 (ji23)⟩ : S88) [.float .f64 (rdOf (0 : Nat) l0 x7_1), .float .f64 (rdOf (0 : Nat) l0 (ji7)), .float .f64 x230002_9, .float .f64 (rdOf (0 : Nat) l0 (ji23))] (fun k_ => k_ ≠ gb229) (fun _ => False) rfl (by first | (go_simp; done) | (go_simp; rfl)) ?aP (fun _ hk => hk.elim) ?aF ?aO ?aB ?aS ?aL ?_; (case aP => exact k88_mkM _ _ _ (⟨(rdOf (0 : Nat) l0 x7_1), (rdOf (0 : Nat) l0 (ji7)), x230002_9, rdOf (0 : Nat) l0 (ji23)⟩ : S88)); (case aB => exact (by repeat (first | (with_reducible first | exact HB.out | apply below_alloc | apply pw_below_drewN | apply below_drew1 | refine below_set ?_ GE229.out) | exact HB.out))); (case aF => exact (fun k_ hk => Kd.freshB (g := gb229) (o := .cells #[.float .f64 (rdOf (0 : Nat) l0 x7_1), .float .f64 (rdOf (0 : Nat) l0 (ji7)), .float .f64 x230002_9, .float .f64 (rdOf (0 : Nat) l0 (ji23))] 88 (0, 0)) (by (with_reducible repeat (first | refine blk_drewN ?_ _ | refine blk_drew ?_ | refine blk_alloc ?_ _)); refine blk_put (cs := #[.float .f64 (rdOf (0 : Nat) l0 x7_1), .float .f64 (rdOf (0 : Nat) l0 (ji7)), .float .f64 x230002_9, .float .f64 0]) ?_ 3 _ rfl; (with_reducible repeat (first | refine blk_drewN ?_ _ | refine blk_drew ?_ | refine blk_alloc ?_ _)); exact BK229.out) k_ hk)); (case aO => exact (by (with_reducible repeat (first | apply Kd.R_alloc | apply Kd.R_drewN | apply Kd.R_drew)); exact Kd.R_mono (Kd.R_far (p := ⟨gb229, 3, none⟩) (Kd.R_mono HO_5.out (fun k_ hk => (⟨hk, hk⟩ : _ ∧ k_ ≠ gb229))) (fun _ hk => hk.2) (.float .f64 (rdOf (0 : Nat) l0 (ji23)))) (fun _ hk => hk.1))); (case aS => exact (below_size (by repeat (first | (with_reducible first | exact HB.out | apply below_alloc | apply pw_below_drewN | apply below_drew1 | refine below_set ?_ GE229.out) | exact HB.out)))); (case aL => have := LMc26.out; omega); intro v233 w28 ho hb hg hat; rw [← Ny232.out] at ho; have n0_ := Aside0.mk (blk_grown (g := gb229) (o := .cells #[.float .f64 (rdOf (0 : Nat) l0 x7_1), .float .f64 (rdOf (0 : Nat) l0 (ji7)), .float .f64 x230002_9, .float .f64 (rdOf (0 : Nat) l0 (ji23))] 88 (0, 0)) (by (with_reducible repeat (first | refine blk_drewN ?_ _ | refine blk_drew ?_ | refine blk_alloc ?_ _)); refine blk_put (cs := #[.float .f64 (rdOf (0 : Nat) l0 x7_1), .float .f64 (rdOf (0 : Nat) l0 (ji7)), .float .f64 x230002_9, .float .f64 0]) ?_ 3 _ rfl; (with_reducible repeat (first | refine blk_drewN ?_ _ | refine blk_drew ?_ | refine blk_alloc ?_ _)); exact BK229.out) hg (Kd.R_away HO_5.out (fun _ hk => hk))); have n1_ := Aside0.mk (hb); have n2_ := Aside0.mk (ho); clear BK229; clear HB; clear HO_5; have BK229 := n0_; have HB := n1_; have HO234 := n2_; clear n0_ n1_ n2_; clear ho hb hg hat))
                            go_roundg kj9
                            case measure => have := HK1.out; have := HJ9.out; omega
                            case rel => exact ⟨(y232), (wrap64 (x7_1 + t226)), (by first | rfl | (simp; done) | (simp [*]; done)), H', ⟨by have := HK1.out; have := HJ9.out; omega⟩, ⟨by (with_reducible repeat (first | apply Kd.R_alloc | apply Kd.R_drewN | apply Kd.R_drew)); exact Kd.R_mono HO234.out (fun _ hk => trivial)⟩, ⟨by repeat (first | (with_reducible first | exact HB.out | apply below_alloc | apply pw_below_drewN | apply below_drew1 | refine below_set ?_ GE229.out) | exact HB.out)⟩⟩
                          · rw [if_neg c26] at H
                            exact absurd H (by simp)
                        · rw [if_neg c25] at H
                          exact absurd H (by simp)
                      · rw [if_neg c24] at H
                        exact absurd H (by simp)
                    · rw [if_neg c22] at H
                      have c22b0 : ((Go.bits .and .i64 a1 2) == 2) = false := beq_eq_false_iff_ne.mpr c22
                      have c22b1 : ((Go.bits .and .i64 a1 2) != 2) = true := bne_iff_ne.mpr c22
                      by_cases c29 : x5_1.length < 4398046511104
                      · rw [if_pos c29] at H
                        have LMc29 := Aside0.mk c29
                        clear c29
                        obtain ⟨y235, hy235⟩ : ∃ y_ : List (S88), y_ = (x5_1 ++ [(⟨(rdOf (0 : Nat) l0 x7_1), (rdOf (0 : Nat) l0 (ji7)), x230002_9, 0⟩ : S88)]) := ⟨_, rfl⟩
                        replace H : (spec_Places.l0 kj9 l0 a1 y235 t226 (wrap64 (x7_1 + t226))) = some r := by first | (rw [hy235]; with_reducible exact H) | (have H2_ := (Option.bind_some _ _).symm.trans H; rw [hy235]; with_reducible exact H2_) | (have H2_ := (Option.bind_some _ _).symm.trans H; with_reducible exact H2_) | with_reducible exact H | (rw [hy235]; exact H) | exact H
                        have Ny235 := Aside0.mk hy235
                        clear hy235
                        have H' := Aside0.mk H
                        clear H
                        have hcz30_0 : wc.cell? ⟨gb229, 0, none⟩ = some (.float .f64 (rdOf (0 : Nat) l0 x7_1)) := (blk_cell BK229.out 0).trans rfl
                        have hcz30_1 : wc.cell? ⟨gb229, 1, none⟩ = some (.float .f64 (rdOf (0 : Nat) l0 (ji7))) := (blk_cell BK229.out 1).trans rfl
                        have hcz30_2 : wc.cell? ⟨gb229, 2, none⟩ = some (.float .f64 x230002_9) := (blk_cell BK229.out 2).trans rfl
                        have hcz30_3 : wc.cell? ⟨gb229, 3, none⟩ = some (.float .f64 0) := (blk_cell BK229.out 3).trans rfl
                        have hfz30_0 := blk_frozen BK229.out 0
                        have hfz30_1 := blk_frozen BK229.out 1
                        have hfz30_2 := blk_frozen BK229.out 2
                        have hfz30_3 := blk_frozen BK229.out 3
                        go_wp2_with (first | ((with_reducible refine gate_builtin (b := .append) (xs := #[.tmp 50, .tmp 52]) rfl ?_); at_builtin; refine Kd.R_append k88 (w0 := w) w.heap.size rfl (.tmp 50) (.tmp 52) 85 88 (.agg #[(.float .f64 0), (.float .f64 0), (.float .f64 0), (.float .f64 0)]) 32 rfl Tryz.underlying85 info88 rfl (by decide) (by omega) u5 x5_1 (⟨(rdOf (0 : Nat) l0 x7_1), (rdOf (0 : Nat) l0 (ji7)), x230002_9, 0⟩ : S88) [.float .f64 (rdOf (0 : Nat) l0 x7_1), .float .f64 (rdOf (0 : Nat) l0 (ji7)), .float .f64 x230002_9, .float .f64 0] (fun k_ => k_ ≠ gb229) (fun _ => False) rfl rfl ?aP (fun _ hk => hk.elim) ?aF ?aO ?aB ?aS ?aL ?_; (case aP => exact k88_mkM _ _ _ (⟨(rdOf (0 : Nat) l0 x7_1), (rdOf (0 : Nat) l0 (ji7)), x230002_9, 0⟩ : S88)); (case aB => exact (by repeat (first | (with_reducible first | exact HB.out | apply below_alloc | apply pw_below_drewN | apply below_drew1 | refine below_set ?_ GE229.out) | exact HB.out))); (case aF => exact (fun k_ hk => Kd.freshB (g := gb229) (o := .cells #[.float .f64 (rdOf (0 : Nat) l0 x7_1), .float .f64 (rdOf (0 : Nat) l0 (ji7)), .float .f64 x230002_9, .float .f64 0] 88 (0, 0)) (by (with_reducible repeat (first | refine blk_drewN ?_ _ | refine blk_drew ?_ | refine blk_alloc ?_ _)); exact BK229.out) k_ hk)); (case aO => exact (by (with_reducible repeat (first | apply Kd.R_alloc | apply Kd.R_drewN | apply Kd.R_drew)); exact HO_5.out)); (case aS => exact (below_size (by repeat (first | (with_reducible first | exact HB.out | apply below_alloc | apply pw_below_drewN | apply below_drew1 | refine below_set ?_ GE229.out) | exact HB.out)))); (case aL => have := LMc29.out; omega); intro v236 w31 ho hb hg hat; rw [← Ny235.out] at ho; have n0_ := Aside0.mk (blk_grown (g := gb229) (o := .cells #[.float .f64 (rdOf (0 : Nat) l0 x7_1), .float .f64 (rdOf (0 : Nat) l0 (ji7)), .float .f64 x230002_9, .float .f64 0] 88 (0, 0)) (by (with_reducible repeat (first | refine blk_drewN ?_ _ | refine blk_drew ?_ | refine blk_alloc ?_ _)); exact BK229.out) hg (Kd.R_away HO_5.out (fun _ hk => hk))); have n1_ := Aside0.mk (hb); have n2_ := Aside0.mk (ho); clear BK229; clear HB; clear HO_5; have BK229 := n0_; have HB := n1_; have HO237 := n2_; clear n0_ n1_ n2_; clear ho hb hg hat))
                        go_roundg kj9
                        case measure => have := HK1.out; have := HJ9.out; omega
                        case rel => exact ⟨(y235), (wrap64 (x7_1 + t226)), (by first | rfl | (simp; done) | (simp [*]; done)), H', ⟨by have := HK1.out; have := HJ9.out; omega⟩, ⟨by (with_reducible repeat (first | apply Kd.R_alloc | apply Kd.R_drewN | apply Kd.R_drew)); exact Kd.R_mono HO237.out (fun _ hk => trivial)⟩, ⟨by repeat (first | (with_reducible first | exact HB.out | apply below_alloc | apply pw_below_drewN | apply below_drew1 | refine below_set ?_ GE229.out) | exact HB.out)⟩⟩
                      · rw [if_neg c29] at H
                        exact absurd H (by simp)
              · rw [if_neg c9] at H
                exact absurd H (by simp)
            · rw [if_neg c8] at H
              exact absurd H (by simp)
          · rw [if_neg c6] at H
            exact absurd H (by simp)
        · rw [if_neg c5] at H
          exact absurd H (by simp)
      · rw [if_neg c4] at H
        have c4b0 : decide ((wrap64 (x7_1 + t226)) ≤ (l0.length : Int)) = false := decide_eq_false c4
        clear c4
        obtain rfl := Option.some.inj H
        go_wp2
        go_ret
        exact ⟨_, by first | rfl | (simp [errW_none, errW_some] <;> rfl) | (simp [*, errW_none, errW_some] <;> rfl), by (with_reducible repeat (first | apply Kd.R_alloc | apply Kd.R_drewN | apply Kd.R_drew)); exact HO_5.out, by repeat (first | (with_reducible first | exact HB.out | apply below_alloc | apply pw_below_drewN | apply below_drew1) | exact HB.out)⟩

/-! ### spec_Nums: function 60 -/
def spec_Nums.l0 : Nat → Int → List Nat → List (S88) → Int → Int → Option (List Nat)
  | 0, _, _, _, _, _ => none
  | k + 1, x1, x5, x8, x9, x10 => if x10 < x9 then (if 0 ≤ x10 then (if x10 < (x8.length : Int) then ((some (([(rd_T88 x8 x10).f0, (rd_T88 x8 x10).f1] : List Nat) : List Nat)).bind fun y240 => (if x5.length + y240.length < 17592186044416 then ((some (x5 ++ y240 : List Nat)).bind fun y243 => (if (Go.bits .and .i64 x1 1) = 1 then (if y243.length < 17592186044416 then ((some (y243 ++ [(rd_T88 x8 x10).f2] : List Nat)).bind fun y246 => (if (Go.bits .and .i64 x1 2) = 2 then (if y246.length < 17592186044416 then (spec_Nums.l0 k x1 (y246 ++ [(rd_T88 x8 x10).f3]) x8 x9 (wrap64 (x10 + 1))) else (none)) else (spec_Nums.l0 k x1 y246 x8 x9 (wrap64 (x10 + 1))))) else (none)) else (if (Go.bits .and .i64 x1 2) = 2 then (if y243.length < 17592186044416 then (spec_Nums.l0 k x1 (y243 ++ [(rd_T88 x8 x10).f3]) x8 x9 (wrap64 (x10 + 1))) else (none)) else (spec_Nums.l0 k x1 y243 x8 x9 (wrap64 (x10 + 1)))))) else (none))) else (none)) else (none)) else (some x5)
def spec_Nums.f (k : Nat) (l0 : List (S88)) (a1 : Int) : Option (List Nat) := spec_Nums.l0 k a1 ([] : List Nat) l0 (l0.length : Int) 0
theorem spec_Nums.mono_l : ∀ k, (∀ y0 y1 y2 y3 y4, LeO (spec_Nums.l0 k y0 y1 y2 y3 y4) (spec_Nums.l0 (k + 1) y0 y1 y2 y3 y4))
  | 0 => fun _ _ _ _ _ r h => by simp [spec_Nums.l0] at h
  | k + 1 => by
    have ih0 := spec_Nums.mono_l k
    · intro y0 y1 y2 y3 y4
      unfold spec_Nums.l0
      repeat' first
      | (with_reducible exact ih0 _ _ _ _ _)
      | (with_reducible exact LeO.refl _)
      | (with_reducible exact LeO.none _)
      | (with_reducible refine LeO.ite ?_ ?_)
      | (with_reducible refine LeO.bind ?_ (fun _ => ?_))
      | exact ih0 _ _ _ _ _
      | exact LeO.none _
      | refine LeO.ite ?_ ?_
      | refine LeO.bind ?_ (fun _ => ?_)
theorem spec_Nums.mono : ∀ a0 a1 k, LeO (spec_Nums.f k a0 a1) (spec_Nums.f (k + 1) a0 a1) := by
  intro a0 a1 k
  have ih0 := spec_Nums.mono_l k
  unfold spec_Nums.f
  repeat' first
      | (with_reducible exact ih0 _ _ _ _ _)
      | (with_reducible exact LeO.refl _)
      | (with_reducible exact LeO.none _)
      | (with_reducible refine LeO.ite ?_ ?_)
      | (with_reducible refine LeO.bind ?_ (fun _ => ?_))
      | exact ih0 _ _ _ _ _
      | exact LeO.none _
      | refine LeO.ite ?_ ?_
      | refine LeO.bind ?_ (fun _ => ?_)
set_option maxHeartbeats 8000000 in
set_option maxRecDepth 100000 in
theorem spec_Nums.calls (k : Nat) (A0 : Option Addr) (c0 : Nat) (l0 : List (S88)) (a1 : Int) (r : List Nat) (w : World) (hr0 : Kd.C k88 w A0 l0.length l0) (hc0 : l0.length ≤ c0) (h : spec_Nums.f k l0 a1 = some r) :
    Calls Tryz.prog 60 #[.slice A0 l0.length c0, .int .i64 a1] w fun e w' => ∃ v0_ : Value, e = .returned (v0_) ∧ Kd.R Kd.float 45 w' w.heap.size (fun _ => True) v0_ r ∧ Below w.heap.size w w' := by
  have hu88 := Tryz.underlying88
  have HR0 := Aside0.mk hr0
  have HC0 := Aside0.mk hc0
  clear hr0 hc0
  have HB := Aside0.mk (Below.refl w.heap.size w)
  have H : (spec_Nums.l0 k a1 ([] : List Nat) l0 (l0.length : Int) 0) = some r := h
  clear h
  have H' := Aside0.mk H
  clear H
  go_enter Tryz.func60, Tryz.ntmps60
  go_wp2
  go_loopg [5, 10] k (fun kq v5 v10 w' => ∃ (x5_1 : List Nat) (x10_1 : Int), v10 = .int .i64 x10_1 ∧ Aside0 (spec_Nums.l0 kq a1 x5_1 l0 (l0.length : Int) x10_1 = some r) ∧ Aside0 (kq ≤ k) ∧ Aside0 (Kd.R Kd.float 45 w' w.heap.size (fun _ => True) v5 x5_1) ∧ Aside0 (Below w.heap.size w w'))
  case atStart => exact ⟨(([] : List Nat)), (0), (by first | rfl | (simp; done) | (simp [*]; done)), H', ⟨Nat.le_refl _⟩, ⟨by first | exact Kd.R_nil _ _ _ _ _ | exact Kd.N_nil _ _ _ _ _ | exact Kd.V_nil _ _ _ _ _ | exact Kd.Q_nil _ _ _ _ _ | exact Kd.S_nil _ _ _ _ _⟩, ⟨by repeat (first | (with_reducible first | exact HB.out | apply below_alloc | apply pw_below_drewN | apply below_drew1) | exact HB.out)⟩⟩
  case round =>
    clear H'
    try clear p2
    obtain ⟨x5_1, x10_1, rfl, HA, HK1, HO_5, HB⟩ := hrel
    cases gk with
    | zero => exact absurd HA.out (by simp [spec_Nums.l0])
    | succ k1 =>
      have H := HA.out
      clear HA
      simp only [spec_Nums.l0] at H
      by_cases c3 : x10_1 < (l0.length : Int)
      · rw [if_pos c3] at H
        have c3b0 : decide (x10_1 < (l0.length : Int)) = true := decide_eq_true c3
        clear c3
        by_cases c4 : 0 ≤ x10_1
        · rw [if_pos c4] at H
          have c4b0 : decide (0 ≤ x10_1) = true := decide_eq_true c4
          clear c4
          by_cases c5 : x10_1 < (l0.length : Int)
          · rw [if_pos c5] at H
            have c5b0 : decide (x10_1 < (l0.length : Int)) = true := decide_eq_true c5
            clear c5
            obtain ⟨y240, hy240⟩ : ∃ y_ : List Nat, y_ = (([(rd_T88 l0 x10_1).f0, (rd_T88 l0 x10_1).f1] : List Nat)) := ⟨_, rfl⟩
            replace H : (if x5_1.length + y240.length < 17592186044416 then ((some (x5_1 ++ y240 : List Nat)).bind fun y243 => (if (Go.bits .and .i64 a1 1) = 1 then (if y243.length < 17592186044416 then ((some (y243 ++ [(rd_T88 l0 x10_1).f2] : List Nat)).bind fun y246 => (if (Go.bits .and .i64 a1 2) = 2 then (if y246.length < 17592186044416 then (spec_Nums.l0 k1 a1 (y246 ++ [(rd_T88 l0 x10_1).f3]) l0 (l0.length : Int) (wrap64 (x10_1 + 1))) else (none)) else (spec_Nums.l0 k1 a1 y246 l0 (l0.length : Int) (wrap64 (x10_1 + 1))))) else (none)) else (if (Go.bits .and .i64 a1 2) = 2 then (if y243.length < 17592186044416 then (spec_Nums.l0 k1 a1 (y243 ++ [(rd_T88 l0 x10_1).f3]) l0 (l0.length : Int) (wrap64 (x10_1 + 1))) else (none)) else (spec_Nums.l0 k1 a1 y243 l0 (l0.length : Int) (wrap64 (x10_1 + 1)))))) else (none)) = some r := by first | (rw [hy240]; with_reducible exact H) | (have H2_ := (Option.bind_some _ _).symm.trans H; rw [hy240]; with_reducible exact H2_) | (have H2_ := (Option.bind_some _ _).symm.trans H; with_reducible exact H2_) | with_reducible exact H | (rw [hy240]; exact H) | exact H
            have Ny240 := Aside0.mk hy240
            clear hy240
            by_cases c6 : x5_1.length + y240.length < 17592186044416
            · rw [if_pos c6] at H
              have LMc6 := Aside0.mk c6
              clear c6
              obtain ⟨y243, hy243⟩ : ∃ y_ : List Nat, y_ = (x5_1 ++ y240) := ⟨_, rfl⟩
              replace H : (if (Go.bits .and .i64 a1 1) = 1 then (if y243.length < 17592186044416 then ((some (y243 ++ [(rd_T88 l0 x10_1).f2] : List Nat)).bind fun y246 => (if (Go.bits .and .i64 a1 2) = 2 then (if y246.length < 17592186044416 then (spec_Nums.l0 k1 a1 (y246 ++ [(rd_T88 l0 x10_1).f3]) l0 (l0.length : Int) (wrap64 (x10_1 + 1))) else (none)) else (spec_Nums.l0 k1 a1 y246 l0 (l0.length : Int) (wrap64 (x10_1 + 1))))) else (none)) else (if (Go.bits .and .i64 a1 2) = 2 then (if y243.length < 17592186044416 then (spec_Nums.l0 k1 a1 (y243 ++ [(rd_T88 l0 x10_1).f3]) l0 (l0.length : Int) (wrap64 (x10_1 + 1))) else (none)) else (spec_Nums.l0 k1 a1 y243 l0 (l0.length : Int) (wrap64 (x10_1 + 1))))) = some r := by first | (rw [hy243]; with_reducible exact H) | (have H2_ := (Option.bind_some _ _).symm.trans H; rw [hy243]; with_reducible exact H2_) | (have H2_ := (Option.bind_some _ _).symm.trans H; with_reducible exact H2_) | with_reducible exact H | (rw [hy243]; exact H) | exact H
              have Ny243 := Aside0.mk hy243
              clear hy243
              by_cases c7 : (Go.bits .and .i64 a1 1) = 1
              · rw [if_pos c7] at H
                have c7b0 : ((Go.bits .and .i64 a1 1) == 1) = true := beq_iff_eq.mpr c7
                have c7b1 : ((Go.bits .and .i64 a1 1) != 1) = false := bne_eq_false_iff_eq.mpr c7
                clear c7
                by_cases c8 : y243.length < 17592186044416
                · rw [if_pos c8] at H
                  have LMc8 := Aside0.mk c8
                  clear c8
                  obtain ⟨y246, hy246⟩ : ∃ y_ : List Nat, y_ = (y243 ++ [(rd_T88 l0 x10_1).f2]) := ⟨_, rfl⟩
                  replace H : (if (Go.bits .and .i64 a1 2) = 2 then (if y246.length < 17592186044416 then (spec_Nums.l0 k1 a1 (y246 ++ [(rd_T88 l0 x10_1).f3]) l0 (l0.length : Int) (wrap64 (x10_1 + 1))) else (none)) else (spec_Nums.l0 k1 a1 y246 l0 (l0.length : Int) (wrap64 (x10_1 + 1)))) = some r := by first | (rw [hy246]; with_reducible exact H) | (have H2_ := (Option.bind_some _ _).symm.trans H; rw [hy246]; with_reducible exact H2_) | (have H2_ := (Option.bind_some _ _).symm.trans H; with_reducible exact H2_) | with_reducible exact H | (rw [hy246]; exact H) | exact H
                  have Ny246 := Aside0.mk hy246
                  clear hy246
                  by_cases c9 : (Go.bits .and .i64 a1 2) = 2
                  · rw [if_pos c9] at H
                    have c9b0 : ((Go.bits .and .i64 a1 2) == 2) = true := beq_iff_eq.mpr c9
                    have c9b1 : ((Go.bits .and .i64 a1 2) != 2) = false := bne_eq_false_iff_eq.mpr c9
                    clear c9
                    by_cases c10 : y246.length < 17592186044416
                    · rw [if_pos c10] at H
                      have LMc10 := Aside0.mk c10
                      clear c10
                      obtain ⟨y249, hy249⟩ : ∃ y_ : List Nat, y_ = (y246 ++ [(rd_T88 l0 x10_1).f3]) := ⟨_, rfl⟩
                      replace H : (spec_Nums.l0 k1 a1 y249 l0 (l0.length : Int) (wrap64 (x10_1 + 1))) = some r := by first | (rw [hy249]; with_reducible exact H) | (have H2_ := (Option.bind_some _ _).symm.trans H; rw [hy249]; with_reducible exact H2_) | (have H2_ := (Option.bind_some _ _).symm.trans H; with_reducible exact H2_) | with_reducible exact H | (rw [hy249]; exact H) | exact H
                      have Ny249 := Aside0.mk hy249
                      clear hy249
                      have H' := Aside0.mk H
                      clear H
                      have p238 : 0 ≤ (x10_1 : Int) := of_decide_eq_true (by first | (with_reducible assumption) | assumption)
                      have q238 : x10_1 < (l0.length : Int) := of_decide_eq_true (by first | (with_reducible assumption) | assumption)
                      obtain ⟨ad238, e238, hx238_0, hx238_1, hx238_2, hx238_3⟩ := at_T88 HR0.out x10_1 p238 q238
                      cases e238
                      replace hx238_0 := (HB.out.cell (World.block_lt_of_cell? w _ hx238_0)).trans hx238_0
                      replace hx238_1 := (HB.out.cell (World.block_lt_of_cell? w _ hx238_1)).trans hx238_1
                      replace hx238_2 := (HB.out.cell (World.block_lt_of_cell? w _ hx238_2)).trans hx238_2
                      replace hx238_3 := (HB.out.cell (World.block_lt_of_cell? w _ hx238_3)).trans hx238_3
                      replace p238 := eq_true p238
                      replace q238 := eq_true q238
                      go_wp2_with (first | ((with_reducible refine gate_dst (N := 7) rfl ?_); refine box_event ?hg (N := 7) ?hd (cs := #[.float .f64 0, .float .f64 0, .float .f64 0, .float .f64 0]) (t := 88) ?hr ?_; (case hd => rfl); (case hg => rfl); (case hr => first | (go_simp; done) | (go_simp; rfl)); intro gb239 hg w11 hbox hb; have n0_ := Aside0.mk (Kd.R_below (by (with_reducible repeat (first | apply Kd.R_alloc | apply Kd.R_drewN | apply Kd.R_drew)); exact HO_5.out) hb); have n1_ := Aside0.mk (below_step (by repeat (first | (with_reducible first | exact HB.out | apply below_alloc | apply pw_below_drewN | apply below_drew1) | exact HB.out)) hb); have n2_ := Aside0.mk (hbox); have n3_ := Aside0.mk ((by rw [hg]; exact (below_size (by repeat (first | (with_reducible first | exact HB.out | apply below_alloc | apply pw_below_drewN | apply below_drew1) | exact HB.out))) : w.heap.size ≤ gb239)); have n4_ := Aside0.mk ((by rw [hg]; exact (below_size (by repeat (first | (with_reducible first | exact HB.out | apply below_alloc | apply pw_below_drewN | apply below_drew1) | exact HB.out))) : w.heap.size ≤ gb239)); clear HO_5; clear HB; have HO_5 := n0_; have HB := n1_; have BK239 := n2_; have GW239 := n3_; have GE239 := n4_; clear n0_ n1_ n2_ n3_ n4_; clear hb hbox hg; have hcz12_0 : w11.cell? ⟨gb239, 0, none⟩ = some (.float .f64 0) := (blk_cell BK239.out 0).trans rfl; have hcz12_1 : w11.cell? ⟨gb239, 1, none⟩ = some (.float .f64 0) := (blk_cell BK239.out 1).trans rfl; have hcz12_2 : w11.cell? ⟨gb239, 2, none⟩ = some (.float .f64 0) := (blk_cell BK239.out 2).trans rfl; have hcz12_3 : w11.cell? ⟨gb239, 3, none⟩ = some (.float .f64 0) := (blk_cell BK239.out 3).trans rfl; have hfz12_0 := blk_frozen BK239.out 0; have hfz12_1 := blk_frozen BK239.out 1; have hfz12_2 := blk_frozen BK239.out 2; have hfz12_3 := blk_frozen BK239.out 3) | ((with_reducible refine gate_dst (N := 19) rfl ?_); refine Kd.R_lit Kd.float _ 45 ?hg (N := 19) ?hd (xs := ([(rd_T88 l0 x10_1).f0, (rd_T88 l0 x10_1).f1] : List Nat)) (inner := [.float .f64 ((rd_T88 l0 x10_1).f0), .float .f64 ((rd_T88 l0 x10_1).f1)]) (ok := fun _ => True) (okp := fun _ => True) ?hr ?hp (fun _ hk => hk) trivial (Below.refl _ _) (Nat.le_refl _) (by simp) ?_; (case hd => rfl); (case hg => rfl); (case hr => first | (go_simp; done) | (go_simp; rfl)); (case hp => exact (Reps.one (show Kd.M Kd.float _ _ _ ((rd_T88 l0 x10_1).f0) [.float .f64 ((rd_T88 l0 x10_1).f0)] from rfl) (Reps.one (show Kd.M Kd.float _ _ _ ((rd_T88 l0 x10_1).f1) [.float .f64 ((rd_T88 l0 x10_1).f1)] from rfl) (Reps.none _ _)))); intro v241 w13 ho14 hb hg_ hnew_; clear hg_ hnew_; (first | rw [← Ny240.out] at ho14 | (simp only [Int.reduceToNat] at ho14; rw [← Ny240.out] at ho14)); have n0_ := Aside0.mk (Kd.R_elder' (by (with_reducible repeat (first | apply Kd.R_alloc | apply Kd.R_drewN | apply Kd.R_drew)); exact (Kd.R_mono (Kd.R_far (p := ⟨gb239, 3, none⟩) (Kd.R_far (p := ⟨gb239, 2, none⟩) (Kd.R_far (p := ⟨gb239, 1, none⟩) (Kd.R_far (p := ⟨gb239, 0, none⟩) (Kd.R_types HO_5.out BK239.out (by decide)) (fun _ hk => hk.2) (.float .f64 ((rd_T88 l0 x10_1).f0))) (fun _ hk => hk.2) (.float .f64 ((rd_T88 l0 x10_1).f1))) (fun _ hk => hk.2) (.float .f64 ((rd_T88 l0 x10_1).f2))) (fun _ hk => hk.2) (.float .f64 ((rd_T88 l0 x10_1).f3))) (fun _ h_ => h_.1))) (Kd.R_base ho14) hb); have n1_ := Aside0.mk (Kd.R_lower (Kd.R_new' ho14 (Kd.R_lt (by (with_reducible repeat (first | apply Kd.R_alloc | apply Kd.R_drewN | apply Kd.R_drew)); exact (Kd.R_mono (Kd.R_far (p := ⟨gb239, 3, none⟩) (Kd.R_far (p := ⟨gb239, 2, none⟩) (Kd.R_far (p := ⟨gb239, 1, none⟩) (Kd.R_far (p := ⟨gb239, 0, none⟩) (Kd.R_types HO_5.out BK239.out (by decide)) (fun _ hk => hk.2) (.float .f64 ((rd_T88 l0 x10_1).f0))) (fun _ hk => hk.2) (.float .f64 ((rd_T88 l0 x10_1).f1))) (fun _ hk => hk.2) (.float .f64 ((rd_T88 l0 x10_1).f2))) (fun _ hk => hk.2) (.float .f64 ((rd_T88 l0 x10_1).f3))) (fun _ h_ => h_.1))))) (below_size (by repeat (first | (with_reducible first | exact HB.out | apply below_alloc | apply pw_below_drewN | apply below_drew1 | refine below_set ?_ GE239.out) | exact HB.out)))); have n2_ := Aside0.mk (blk_below (g := gb239) (o := .cells #[.float .f64 ((rd_T88 l0 x10_1).f0), .float .f64 ((rd_T88 l0 x10_1).f1), .float .f64 ((rd_T88 l0 x10_1).f2), .float .f64 ((rd_T88 l0 x10_1).f3)] 88 (0, 0)) (by (with_reducible repeat (first | refine blk_drewN ?_ _ | refine blk_drew ?_ | refine blk_alloc ?_ _)); refine blk_put (cs := #[.float .f64 ((rd_T88 l0 x10_1).f0), .float .f64 ((rd_T88 l0 x10_1).f1), .float .f64 ((rd_T88 l0 x10_1).f2), .float .f64 0]) ?_ 3 _ rfl; (with_reducible repeat (first | refine blk_drewN ?_ _ | refine blk_drew ?_ | refine blk_alloc ?_ _)); refine blk_put (cs := #[.float .f64 ((rd_T88 l0 x10_1).f0), .float .f64 ((rd_T88 l0 x10_1).f1), .float .f64 0, .float .f64 0]) ?_ 2 _ rfl; (with_reducible repeat (first | refine blk_drewN ?_ _ | refine blk_drew ?_ | refine blk_alloc ?_ _)); refine blk_put (cs := #[.float .f64 ((rd_T88 l0 x10_1).f0), .float .f64 0, .float .f64 0, .float .f64 0]) ?_ 1 _ rfl; (with_reducible repeat (first | refine blk_drewN ?_ _ | refine blk_drew ?_ | refine blk_alloc ?_ _)); refine blk_put (cs := #[.float .f64 0, .float .f64 0, .float .f64 0, .float .f64 0]) ?_ 0 _ rfl; (with_reducible repeat (first | refine blk_drewN ?_ _ | refine blk_drew ?_ | refine blk_alloc ?_ _)); exact BK239.out) hb); have n3_ := Aside0.mk (below_step (by repeat (first | (with_reducible first | exact HB.out | apply below_alloc | apply pw_below_drewN | apply below_drew1 | refine below_set ?_ GE239.out) | exact HB.out)) hb); clear HO_5; clear BK239; clear HB; have HO_5 := n0_; have HO242 := n1_; have BK239 := n2_; have HB := n3_; clear n0_ n1_ n2_ n3_; clear hb ho14; obtain ⟨Ao16, co16, eo16⟩ := Kd.R_slice HO242.out; subst eo16) | ((with_reducible refine gate_builtin (b := .append) (xs := #[.tmp 14, .tmp 19]) rfl ?_); at_builtin; refine Kd.R_append_rows Kd.float (w0 := w) w.heap.size rfl (.tmp 14) (.tmp 19) 22 45 (.float .f64 0) 8 rfl Tryz.underlying22 info45 rfl (by decide) (by omega) u5 x5_1 y240 _ _ _ (fun k_ => some k_ ≠ (.slice Ao16 y240.length co16 : Value).ownBlock) (fun _ => False) rfl rfl ?aO ?aR (fun _ _ h => h) (fun _ h => h.elim) ?aF ?aB ?aS ?aL ?_; (case aR => repeat (first | exact (Kd.R_reads' HO242.out).2.2 | (with_reducible refine Kd.C_alloc ?_ _) | (with_reducible refine Kd.C_drewN ?_ _) | (with_reducible refine Kd.C_drew ?_))); (case aB => exact (by repeat (first | (with_reducible first | exact HB.out | apply below_alloc | apply pw_below_drewN | apply below_drew1 | refine below_set ?_ GE239.out) | exact HB.out))); (case aF => exact (fun k_ hk => Kd.fresh' (Kd.R_lt (by (with_reducible repeat (first | apply Kd.R_alloc | apply Kd.R_drewN | apply Kd.R_drew)); exact HO242.out)) k_ hk)); (case aO => exact (by (with_reducible repeat (first | apply Kd.R_alloc | apply Kd.R_drewN | apply Kd.R_drew)); exact Kd.R_mono HO_5.out (fun _ hk => hk.2))); (case aS => exact (below_size (by repeat (first | (with_reducible first | exact HB.out | apply below_alloc | apply pw_below_drewN | apply below_drew1 | refine below_set ?_ GE239.out) | exact HB.out)))); (case aL => have := LMc6.out; omega); intro v244 w15 ho hb hg hat; rw [← Ny243.out] at ho; have n0_ := Aside0.mk (blk_grown (g := gb239) (o := .cells #[.float .f64 ((rd_T88 l0 x10_1).f0), .float .f64 ((rd_T88 l0 x10_1).f1), .float .f64 ((rd_T88 l0 x10_1).f2), .float .f64 ((rd_T88 l0 x10_1).f3)] 88 (0, 0)) (by (with_reducible repeat (first | refine blk_drewN ?_ _ | refine blk_drew ?_ | refine blk_alloc ?_ _)); exact BK239.out) hg (Kd.R_ne HO_5.out BK239.out (by decide))); have n1_ := Aside0.mk (Kd.R_after (ok := (fun _ => True)) (by (with_reducible repeat (first | apply Kd.R_alloc | apply Kd.R_drewN | apply Kd.R_drew)); exact HO242.out) hg hat); have n2_ := Aside0.mk (hb); have n3_ := Aside0.mk (ho); clear BK239; clear HO242; clear HB; clear HO_5; have BK239 := n0_; have HO242 := n1_; have HB := n2_; have HO245 := n3_; clear n0_ n1_ n2_ n3_; clear ho hb hg hat; have hcz17_0 : w15.cell? ⟨gb239, 0, none⟩ = some (.float .f64 ((rd_T88 l0 x10_1).f0)) := (blk_cell BK239.out 0).trans rfl; have hcz17_1 : w15.cell? ⟨gb239, 1, none⟩ = some (.float .f64 ((rd_T88 l0 x10_1).f1)) := (blk_cell BK239.out 1).trans rfl; have hcz17_2 : w15.cell? ⟨gb239, 2, none⟩ = some (.float .f64 ((rd_T88 l0 x10_1).f2)) := (blk_cell BK239.out 2).trans rfl; have hcz17_3 : w15.cell? ⟨gb239, 3, none⟩ = some (.float .f64 ((rd_T88 l0 x10_1).f3)) := (blk_cell BK239.out 3).trans rfl; have hfz17_0 := blk_frozen BK239.out 0; have hfz17_1 := blk_frozen BK239.out 1; have hfz17_2 := blk_frozen BK239.out 2; have hfz17_3 := blk_frozen BK239.out 3) | ((with_reducible refine gate_builtin (b := .append) (xs := #[.tmp 24, .tmp 27]) rfl ?_); at_builtin; refine Kd.R_append Kd.float (w0 := w) w.heap.size rfl (.tmp 24) (.tmp 27) 22 45 (.float .f64 0) 8 rfl Tryz.underlying22 info45 rfl (by decide) (by omega) v244 y243 ((rd_T88 l0 x10_1).f2) [.float .f64 ((rd_T88 l0 x10_1).f2)] (fun k_ => some k_ ≠ (.slice Ao16 y240.length co16 : Value).ownBlock) (fun _ => False) rfl rfl ?aP (fun _ hk => hk.elim) ?aF ?aO ?aB ?aS ?aL ?_; (case aP => exact rfl); (case aB => exact (by repeat (first | (with_reducible first | exact HB.out | apply below_alloc | apply pw_below_drewN | apply below_drew1 | refine below_set ?_ GE239.out) | exact HB.out))); (case aF => exact (fun k_ hk => Kd.fresh' (Kd.R_lt (by (with_reducible repeat (first | apply Kd.R_alloc | apply Kd.R_drewN | apply Kd.R_drew)); exact HO242.out)) k_ hk)); (case aO => exact (by (with_reducible repeat (first | apply Kd.R_alloc | apply Kd.R_drewN | apply Kd.R_drew)); exact HO245.out)); (case aS => exact (below_size (by repeat (first | (with_reducible first | exact HB.out | apply below_alloc | apply pw_below_drewN | apply below_drew1 | refine below_set ?_ GE239.out) | exact HB.out)))); (case aL => have := LMc8.out; omega); intro v247 w18 ho hb hg hat; rw [← Ny246.out] at ho; have n0_ := Aside0.mk (blk_grown (g := gb239) (o := .cells #[.float .f64 ((rd_T88 l0 x10_1).f0), .float .f64 ((rd_T88 l0 x10_1).f1), .float .f64 ((rd_T88 l0 x10_1).f2), .float .f64 ((rd_T88 l0 x10_1).f3)] 88 (0, 0)) (by (with_reducible repeat (first | refine blk_drewN ?_ _ | refine blk_drew ?_ | refine blk_alloc ?_ _)); exact BK239.out) hg (Kd.R_ne HO245.out BK239.out (by decide))); have n1_ := Aside0.mk (Kd.R_after (ok := (fun _ => True)) (by (with_reducible repeat (first | apply Kd.R_alloc | apply Kd.R_drewN | apply Kd.R_drew)); exact HO242.out) hg hat); have n2_ := Aside0.mk (hb); have n3_ := Aside0.mk (ho); clear BK239; clear HO242; clear HB; clear HO245; have BK239 := n0_; have HO242 := n1_; have HB := n2_; have HO248 := n3_; clear n0_ n1_ n2_ n3_; clear ho hb hg hat; have hcz19_0 : w18.cell? ⟨gb239, 0, none⟩ = some (.float .f64 ((rd_T88 l0 x10_1).f0)) := (blk_cell BK239.out 0).trans rfl; have hcz19_1 : w18.cell? ⟨gb239, 1, none⟩ = some (.float .f64 ((rd_T88 l0 x10_1).f1)) := (blk_cell BK239.out 1).trans rfl; have hcz19_2 : w18.cell? ⟨gb239, 2, none⟩ = some (.float .f64 ((rd_T88 l0 x10_1).f2)) := (blk_cell BK239.out 2).trans rfl; have hcz19_3 : w18.cell? ⟨gb239, 3, none⟩ = some (.float .f64 ((rd_T88 l0 x10_1).f3)) := (blk_cell BK239.out 3).trans rfl; have hfz19_0 := blk_frozen BK239.out 0; have hfz19_1 := blk_frozen BK239.out 1; have hfz19_2 := blk_frozen BK239.out 2; have hfz19_3 := blk_frozen BK239.out 3) | ((with_reducible refine gate_builtin (b := .append) (xs := #[.tmp 32, .tmp 35]) rfl ?_); at_builtin; refine Kd.R_append Kd.float (w0 := w) w.heap.size rfl (.tmp 32) (.tmp 35) 22 45 (.float .f64 0) 8 rfl Tryz.underlying22 info45 rfl (by decide) (by omega) v247 y246 ((rd_T88 l0 x10_1).f3) [.float .f64 ((rd_T88 l0 x10_1).f3)] (fun k_ => some k_ ≠ (.slice Ao16 y240.length co16 : Value).ownBlock) (fun _ => False) rfl rfl ?aP (fun _ hk => hk.elim) ?aF ?aO ?aB ?aS ?aL ?_; (case aP => exact rfl); (case aB => exact (by repeat (first | (with_reducible first | exact HB.out | apply below_alloc | apply pw_below_drewN | apply below_drew1 | refine below_set ?_ GE239.out) | exact HB.out))); (case aF => exact (fun k_ hk => Kd.fresh' (Kd.R_lt (by (with_reducible repeat (first | apply Kd.R_alloc | apply Kd.R_drewN | apply Kd.R_drew)); exact HO242.out)) k_ hk)); (case aO => exact (by (with_reducible repeat (first | apply Kd.R_alloc | apply Kd.R_drewN | apply Kd.R_drew)); exact HO248.out)); (case aS => exact (below_size (by repeat (first | (with_reducible first | exact HB.out | apply below_alloc | apply pw_below_drewN | apply below_drew1 | refine below_set ?_ GE239.out) | exact HB.out)))); (case aL => have := LMc10.out; omega); intro v250 w20 ho hb hg hat; rw [← Ny249.out] at ho; have n0_ := Aside0.mk (blk_grown (g := gb239) (o := .cells #[.float .f64 ((rd_T88 l0 x10_1).f0), .float .f64 ((rd_T88 l0 x10_1).f1), .float .f64 ((rd_T88 l0 x10_1).f2), .float .f64 ((rd_T88 l0 x10_1).f3)] 88 (0, 0)) (by (with_reducible repeat (first | refine blk_drewN ?_ _ | refine blk_drew ?_ | refine blk_alloc ?_ _)); exact BK239.out) hg (Kd.R_ne HO248.out BK239.out (by decide))); have n1_ := Aside0.mk (Kd.R_after (ok := (fun _ => True)) (by (with_reducible repeat (first | apply Kd.R_alloc | apply Kd.R_drewN | apply Kd.R_drew)); exact HO242.out) hg hat); have n2_ := Aside0.mk (hb); have n3_ := Aside0.mk (ho); clear BK239; clear HO242; clear HB; clear HO248; have BK239 := n0_; have HO242 := n1_; have HB := n2_; have HO251 := n3_; clear n0_ n1_ n2_ n3_; clear ho hb hg hat))
                      go_roundg k1
                      case measure => have := HK1.out; omega
                      case rel => exact ⟨(y249), (wrap64 (x10_1 + 1)), (by first | rfl | (simp; done) | (simp [*]; done)), H', ⟨by have := HK1.out; omega⟩, ⟨by (with_reducible repeat (first | apply Kd.R_alloc | apply Kd.R_drewN | apply Kd.R_drew)); exact Kd.R_mono HO251.out (fun _ hk => trivial)⟩, ⟨by repeat (first | (with_reducible first | exact HB.out | apply below_alloc | apply pw_below_drewN | apply below_drew1 | refine below_set ?_ GE239.out) | exact HB.out)⟩⟩
                    · rw [if_neg c10] at H
                      exact absurd H (by simp)
                  · rw [if_neg c9] at H
                    have c9b0 : ((Go.bits .and .i64 a1 2) == 2) = false := beq_eq_false_iff_ne.mpr c9
                    have c9b1 : ((Go.bits .and .i64 a1 2) != 2) = true := bne_iff_ne.mpr c9
                    have H' := Aside0.mk H
                    clear H
                    have p238 : 0 ≤ (x10_1 : Int) := of_decide_eq_true (by first | (with_reducible assumption) | assumption)
                    have q238 : x10_1 < (l0.length : Int) := of_decide_eq_true (by first | (with_reducible assumption) | assumption)
                    obtain ⟨ad238, e238, hx238_0, hx238_1, hx238_2, hx238_3⟩ := at_T88 HR0.out x10_1 p238 q238
                    cases e238
                    replace hx238_0 := (HB.out.cell (World.block_lt_of_cell? w _ hx238_0)).trans hx238_0
                    replace hx238_1 := (HB.out.cell (World.block_lt_of_cell? w _ hx238_1)).trans hx238_1
                    replace hx238_2 := (HB.out.cell (World.block_lt_of_cell? w _ hx238_2)).trans hx238_2
                    replace hx238_3 := (HB.out.cell (World.block_lt_of_cell? w _ hx238_3)).trans hx238_3
                    replace p238 := eq_true p238
                    replace q238 := eq_true q238
                    go_wp2_with (first | ((with_reducible refine gate_dst (N := 7) rfl ?_); refine box_event ?hg (N := 7) ?hd (cs := #[.float .f64 0, .float .f64 0, .float .f64 0, .float .f64 0]) (t := 88) ?hr ?_; (case hd => rfl); (case hg => rfl); (case hr => first | (go_simp; done) | (go_simp; rfl)); intro gb239 hg w21 hbox hb; have n0_ := Aside0.mk (Kd.R_below (by (with_reducible repeat (first | apply Kd.R_alloc | apply Kd.R_drewN | apply Kd.R_drew)); exact HO_5.out) hb); have n1_ := Aside0.mk (below_step (by repeat (first | (with_reducible first | exact HB.out | apply below_alloc | apply pw_below_drewN | apply below_drew1) | exact HB.out)) hb); have n2_ := Aside0.mk (hbox); have n3_ := Aside0.mk ((by rw [hg]; exact (below_size (by repeat (first | (with_reducible first | exact HB.out | apply below_alloc | apply pw_below_drewN | apply below_drew1) | exact HB.out))) : w.heap.size ≤ gb239)); have n4_ := Aside0.mk ((by rw [hg]; exact (below_size (by repeat (first | (with_reducible first | exact HB.out | apply below_alloc | apply pw_below_drewN | apply below_drew1) | exact HB.out))) : w.heap.size ≤ gb239)); clear HO_5; clear HB; have HO_5 := n0_; have HB := n1_; have BK239 := n2_; have GW239 := n3_; have GE239 := n4_; clear n0_ n1_ n2_ n3_ n4_; clear hb hbox hg; have hcz22_0 : w21.cell? ⟨gb239, 0, none⟩ = some (.float .f64 0) := (blk_cell BK239.out 0).trans rfl; have hcz22_1 : w21.cell? ⟨gb239, 1, none⟩ = some (.float .f64 0) := (blk_cell BK239.out 1).trans rfl; have hcz22_2 : w21.cell? ⟨gb239, 2, none⟩ = some (.float .f64 0) := (blk_cell BK239.out 2).trans rfl; have hcz22_3 : w21.cell? ⟨gb239, 3, none⟩ = some (.float .f64 0) := (blk_cell BK239.out 3).trans rfl; have hfz22_0 := blk_frozen BK239.out 0; have hfz22_1 := blk_frozen BK239.out 1; have hfz22_2 := blk_frozen BK239.out 2; have hfz22_3 := blk_frozen BK239.out 3) | ((with_reducible refine gate_dst (N := 19) rfl ?_); refine Kd.R_lit Kd.float _ 45 ?hg (N := 19) ?hd (xs := ([(rd_T88 l0 x10_1).f0, (rd_T88 l0 x10_1).f1] : List Nat)) (inner := [.float .f64 ((rd_T88 l0 x10_1).f0), .float .f64 ((rd_T88 l0 x10_1).f1)]) (ok := fun _ => True) (okp := fun _ => True) ?hr ?hp (fun _ hk => hk) trivial (Below.refl _ _) (Nat.le_refl _) (by simp) ?_; (case hd => rfl); (case hg => rfl); (case hr => first | (go_simp; done) | (go_simp; rfl)); (case hp => exact (Reps.one (show Kd.M Kd.float _ _ _ ((rd_T88 l0 x10_1).f0) [.float .f64 ((rd_T88 l0 x10_1).f0)] from rfl) (Reps.one (show Kd.M Kd.float _ _ _ ((rd_T88 l0 x10_1).f1) [.float .f64 ((rd_T88 l0 x10_1).f1)] from rfl) (Reps.none _ _)))); intro v241 w23 ho24 hb hg_ hnew_; clear hg_ hnew_; (first | rw [← Ny240.out] at ho24 | (simp only [Int.reduceToNat] at ho24; rw [← Ny240.out] at ho24)); have n0_ := Aside0.mk (Kd.R_elder' (by (with_reducible repeat (first | apply Kd.R_alloc | apply Kd.R_drewN | apply Kd.R_drew)); exact (Kd.R_mono (Kd.R_far (p := ⟨gb239, 3, none⟩) (Kd.R_far (p := ⟨gb239, 2, none⟩) (Kd.R_far (p := ⟨gb239, 1, none⟩) (Kd.R_far (p := ⟨gb239, 0, none⟩) (Kd.R_types HO_5.out BK239.out (by decide)) (fun _ hk => hk.2) (.float .f64 ((rd_T88 l0 x10_1).f0))) (fun _ hk => hk.2) (.float .f64 ((rd_T88 l0 x10_1).f1))) (fun _ hk => hk.2) (.float .f64 ((rd_T88 l0 x10_1).f2))) (fun _ hk => hk.2) (.float .f64 ((rd_T88 l0 x10_1).f3))) (fun _ h_ => h_.1))) (Kd.R_base ho24) hb); have n1_ := Aside0.mk (Kd.R_lower (Kd.R_new' ho24 (Kd.R_lt (by (with_reducible repeat (first | apply Kd.R_alloc | apply Kd.R_drewN | apply Kd.R_drew)); exact (Kd.R_mono (Kd.R_far (p := ⟨gb239, 3, none⟩) (Kd.R_far (p := ⟨gb239, 2, none⟩) (Kd.R_far (p := ⟨gb239, 1, none⟩) (Kd.R_far (p := ⟨gb239, 0, none⟩) (Kd.R_types HO_5.out BK239.out (by decide)) (fun _ hk => hk.2) (.float .f64 ((rd_T88 l0 x10_1).f0))) (fun _ hk => hk.2) (.float .f64 ((rd_T88 l0 x10_1).f1))) (fun _ hk => hk.2) (.float .f64 ((rd_T88 l0 x10_1).f2))) (fun _ hk => hk.2) (.float .f64 ((rd_T88 l0 x10_1).f3))) (fun _ h_ => h_.1))))) (below_size (by repeat (first | (with_reducible first | exact HB.out | apply below_alloc | apply pw_below_drewN | apply below_drew1 | refine below_set ?_ GE239.out) | exact HB.out)))); have n2_ := Aside0.mk (blk_below (g := gb239) (o := .cells #[.float .f64 ((rd_T88 l0 x10_1).f0), .float .f64 ((rd_T88 l0 x10_1).f1), .float .f64 ((rd_T88 l0 x10_1).f2), .float .f64 ((rd_T88 l0 x10_1).f3)] 88 (0, 0)) (by (with_reducible repeat (first | refine blk_drewN ?_ _ | refine blk_drew ?_ | refine blk_alloc ?_ _)); refine blk_put (cs := #[.float .f64 ((rd_T88 l0 x10_1).f0), .float .f64 ((rd_T88 l0 x10_1).f1), .float .f64 ((rd_T88 l0 x10_1).f2), .float .f64 0]) ?_ 3 _ rfl; (with_reducible repeat (first | refine blk_drewN ?_ _ | refine blk_drew ?_ | refine blk_alloc ?_ _)); refine blk_put (cs := #[.float .f64 ((rd_T88 l0 x10_1).f0), .float .f64 ((rd_T88 l0 x10_1).f1), .float .f64 0, .float .f64 0]) ?_ 2 _ rfl; (with_reducible repeat (first | refine blk_drewN ?_ _ | refine blk_drew ?_ | refine blk_alloc ?_ _)); refine blk_put (cs := #[.float .f64 ((rd_T88 l0 x10_1).f0), .float .f64 0, .float .f64 0, .float .f64 0]) ?_ 1 _ rfl; (with_reducible repeat (first | refine blk_drewN ?_ _ | refine blk_drew ?_ | refine blk_alloc ?_ _)); refine blk_put (cs := #[.float .f64 0, .float .f64 0, .float .f64 0, .float .f64 0]) ?_ 0 _ rfl; (with_reducible repeat (first | refine blk_drewN ?_ _ | refine blk_drew ?_ | refine blk_alloc ?_ _)); exact BK239.out) hb); have n3_ := Aside0.mk (below_step (by repeat (first | (with_reducible first | exact HB.out | apply below_alloc | apply pw_below_drewN | apply below_drew1 | refine below_set ?_ GE239.out) | exact HB.out)) hb); clear HO_5; clear BK239; clear HB; have HO_5 := n0_; have HO242 := n1_; have BK239 := n2_; have HB := n3_; clear n0_ n1_ n2_ n3_; clear hb ho24; obtain ⟨Ao26, co26, eo26⟩ := Kd.R_slice HO242.out; subst eo26) | ((with_reducible refine gate_builtin (b := .append) (xs := #[.tmp 14, .tmp 19]) rfl ?_); at_builtin; refine Kd.R_append_rows Kd.float (w0 := w) w.heap.size rfl (.tmp 14) (.tmp 19) 22 45 (.float .f64 0) 8 rfl Tryz.underlying22 info45 rfl (by decide) (by omega) u5 x5_1 y240 _ _ _ (fun k_ => some k_ ≠ (.slice Ao26 y240.length co26 : Value).ownBlock) (fun _ => False) rfl rfl ?aO ?aR (fun _ _ h => h) (fun _ h => h.elim) ?aF ?aB ?aS ?aL ?_; (case aR => repeat (first | exact (Kd.R_reads' HO242.out).2.2 | (with_reducible refine Kd.C_alloc ?_ _) | (with_reducible refine Kd.C_drewN ?_ _) | (with_reducible refine Kd.C_drew ?_))); (case aB => exact (by repeat (first | (with_reducible first | exact HB.out | apply below_alloc | apply pw_below_drewN | apply below_drew1 | refine below_set ?_ GE239.out) | exact HB.out))); (case aF => exact (fun k_ hk => Kd.fresh' (Kd.R_lt (by (with_reducible repeat (first | apply Kd.R_alloc | apply Kd.R_drewN | apply Kd.R_drew)); exact HO242.out)) k_ hk)); (case aO => exact (by (with_reducible repeat (first | apply Kd.R_alloc | apply Kd.R_drewN | apply Kd.R_drew)); exact Kd.R_mono HO_5.out (fun _ hk => hk.2))); (case aS => exact (below_size (by repeat (first | (with_reducible first | exact HB.out | apply below_alloc | apply pw_below_drewN | apply below_drew1 | refine below_set ?_ GE239.out) | exact HB.out)))); (case aL => have := LMc6.out; omega); intro v244 w25 ho hb hg hat; rw [← Ny243.out] at ho; have n0_ := Aside0.mk (blk_grown (g := gb239) (o := .cells #[.float .f64 ((rd_T88 l0 x10_1).f0), .float .f64 ((rd_T88 l0 x10_1).f1), .float .f64 ((rd_T88 l0 x10_1).f2), .float .f64 ((rd_T88 l0 x10_1).f3)] 88 (0, 0)) (by (with_reducible repeat (first | refine blk_drewN ?_ _ | refine blk_drew ?_ | refine blk_alloc ?_ _)); exact BK239.out) hg (Kd.R_ne HO_5.out BK239.out (by decide))); have n1_ := Aside0.mk (Kd.R_after (ok := (fun _ => True)) (by (with_reducible repeat (first | apply Kd.R_alloc | apply Kd.R_drewN | apply Kd.R_drew)); exact HO242.out) hg hat); have n2_ := Aside0.mk (hb); have n3_ := Aside0.mk (ho); clear BK239; clear HO242; clear HB; clear HO_5; have BK239 := n0_; have HO242 := n1_; have HB := n2_; have HO245 := n3_; clear n0_ n1_ n2_ n3_; clear ho hb hg hat; have hcz27_0 : w25.cell? ⟨gb239, 0, none⟩ = some (.float .f64 ((rd_T88 l0 x10_1).f0)) := (blk_cell BK239.out 0).trans rfl; have hcz27_1 : w25.cell? ⟨gb239, 1, none⟩ = some (.float .f64 ((rd_T88 l0 x10_1).f1)) := (blk_cell BK239.out 1).trans rfl; have hcz27_2 : w25.cell? ⟨gb239, 2, none⟩ = some (.float .f64 ((rd_T88 l0 x10_1).f2)) := (blk_cell BK239.out 2).trans rfl; have hcz27_3 : w25.cell? ⟨gb239, 3, none⟩ = some (.float .f64 ((rd_T88 l0 x10_1).f3)) := (blk_cell BK239.out 3).trans rfl; have hfz27_0 := blk_frozen BK239.out 0; have hfz27_1 := blk_frozen BK239.out 1; have hfz27_2 := blk_frozen BK239.out 2; have hfz27_3 := blk_frozen BK239.out 3) | ((with_reducible refine gate_builtin (b := .append) (xs := #[.tmp 24, .tmp 27]) rfl ?_); at_builtin; refine Kd.R_append Kd.float (w0 := w) w.heap.size rfl (.tmp 24) (.tmp 27) 22 45 (.float .f64 0) 8 rfl Tryz.underlying22 info45 rfl (by decide) (by omega) v244 y243 ((rd_T88 l0 x10_1).f2) [.float .f64 ((rd_T88 l0 x10_1).f2)] (fun k_ => some k_ ≠ (.slice Ao26 y240.length co26 : Value).ownBlock) (fun _ => False) rfl rfl ?aP (fun _ hk => hk.elim) ?aF ?aO ?aB ?aS ?aL ?_; (case aP => exact rfl); (case aB => exact (by repeat (first | (with_reducible first | exact HB.out | apply below_alloc | apply pw_below_drewN | apply below_drew1 | refine below_set ?_ GE239.out) | exact HB.out))); (case aF => exact (fun k_ hk => Kd.fresh' (Kd.R_lt (by (with_reducible repeat (first | apply Kd.R_alloc | apply Kd.R_drewN | apply Kd.R_drew)); exact HO242.out)) k_ hk)); (case aO => exact (by (with_reducible repeat (first | apply Kd.R_alloc | apply Kd.R_drewN | apply Kd.R_drew)); exact HO245.out)); (case aS => exact (below_size (by repeat (first | (with_reducible first | exact HB.out | apply below_alloc | apply pw_below_drewN | apply below_drew1 | refine below_set ?_ GE239.out) | exact HB.out)))); (case aL => have := LMc8.out; omega); intro v247 w28 ho hb hg hat; rw [← Ny246.out] at ho; have n0_ := Aside0.mk (blk_grown (g := gb239) (o := .cells #[.float .f64 ((rd_T88 l0 x10_1).f0), .float .f64 ((rd_T88 l0 x10_1).f1), .float .f64 ((rd_T88 l0 x10_1).f2), .float .f64 ((rd_T88 l0 x10_1).f3)] 88 (0, 0)) (by (with_reducible repeat (first | refine blk_drewN ?_ _ | refine blk_drew ?_ | refine blk_alloc ?_ _)); exact BK239.out) hg (Kd.R_ne HO245.out BK239.out (by decide))); have n1_ := Aside0.mk (Kd.R_after (ok := (fun _ => True)) (by (with_reducible repeat (first | apply Kd.R_alloc | apply Kd.R_drewN | apply Kd.R_drew)); exact HO242.out) hg hat); have n2_ := Aside0.mk (hb); have n3_ := Aside0.mk (ho); clear BK239; clear HO242; clear HB; clear HO245; have BK239 := n0_; have HO242 := n1_; have HB := n2_; have HO248 := n3_; clear n0_ n1_ n2_ n3_; clear ho hb hg hat))
                    go_roundg k1
                    case measure => have := HK1.out; omega
                    case rel => exact ⟨(y246), (wrap64 (x10_1 + 1)), (by first | rfl | (simp; done) | (simp [*]; done)), H', ⟨by have := HK1.out; omega⟩, ⟨by (with_reducible repeat (first | apply Kd.R_alloc | apply Kd.R_drewN | apply Kd.R_drew)); exact Kd.R_mono HO248.out (fun _ hk => trivial)⟩, ⟨by repeat (first | (with_reducible first | exact HB.out | apply below_alloc | apply pw_below_drewN | apply below_drew1 | refine below_set ?_ GE239.out) | exact HB.out)⟩⟩
                · rw [if_neg c8] at H
                  exact absurd H (by simp)
              · rw [if_neg c7] at H
                have c7b0 : ((Go.bits .and .i64 a1 1) == 1) = false := beq_eq_false_iff_ne.mpr c7
                have c7b1 : ((Go.bits .and .i64 a1 1) != 1) = true := bne_iff_ne.mpr c7
                by_cases c29 : (Go.bits .and .i64 a1 2) = 2
                · rw [if_pos c29] at H
                  have c29b0 : ((Go.bits .and .i64 a1 2) == 2) = true := beq_iff_eq.mpr c29
                  have c29b1 : ((Go.bits .and .i64 a1 2) != 2) = false := bne_eq_false_iff_eq.mpr c29
                  clear c29
                  by_cases c30 : y243.length < 17592186044416
                  · rw [if_pos c30] at H
                    have LMc30 := Aside0.mk c30
                    clear c30
                    obtain ⟨y252, hy252⟩ : ∃ y_ : List Nat, y_ = (y243 ++ [(rd_T88 l0 x10_1).f3]) := ⟨_, rfl⟩
                    replace H : (spec_Nums.l0 k1 a1 y252 l0 (l0.length : Int) (wrap64 (x10_1 + 1))) = some r := by first | (rw [hy252]; with_reducible exact H) | (have H2_ := (Option.bind_some _ _).symm.trans H; rw [hy252]; with_reducible exact H2_) | (have H2_ := (Option.bind_some _ _).symm.trans H; with_reducible exact H2_) | with_reducible exact H | (rw [hy252]; exact H) | exact H
                    have Ny252 := Aside0.mk hy252
                    clear hy252
                    have H' := Aside0.mk H
                    clear H
                    have p238 : 0 ≤ (x10_1 : Int) := of_decide_eq_true (by first | (with_reducible assumption) | assumption)
                    have q238 : x10_1 < (l0.length : Int) := of_decide_eq_true (by first | (with_reducible assumption) | assumption)
                    obtain ⟨ad238, e238, hx238_0, hx238_1, hx238_2, hx238_3⟩ := at_T88 HR0.out x10_1 p238 q238
                    cases e238
                    replace hx238_0 := (HB.out.cell (World.block_lt_of_cell? w _ hx238_0)).trans hx238_0
                    replace hx238_1 := (HB.out.cell (World.block_lt_of_cell? w _ hx238_1)).trans hx238_1
                    replace hx238_2 := (HB.out.cell (World.block_lt_of_cell? w _ hx238_2)).trans hx238_2
                    replace hx238_3 := (HB.out.cell (World.block_lt_of_cell? w _ hx238_3)).trans hx238_3
                    replace p238 := eq_true p238
                    replace q238 := eq_true q238
                    go_wp2_with (first | ((with_reducible refine gate_dst (N := 7) rfl ?_); refine box_event ?hg (N := 7) ?hd (cs := #[.float .f64 0, .float .f64 0, .float .f64 0, .float .f64 0]) (t := 88) ?hr ?_; (case hd => rfl); (case hg => rfl); (case hr => first | (go_simp; done) | (go_simp; rfl)); intro gb239 hg w31 hbox hb; have n0_ := Aside0.mk (Kd.R_below (by (with_reducible repeat (first | apply Kd.R_alloc | apply Kd.R_drewN | apply Kd.R_drew)); exact HO_5.out) hb); have n1_ := Aside0.mk (below_step (by repeat (first | (with_reducible first | exact HB.out | apply below_alloc | apply pw_below_drewN | apply below_drew1) | exact HB.out)) hb); have n2_ := Aside0.mk (hbox); have n3_ := Aside0.mk ((by rw [hg]; exact (below_size (by repeat (first | (with_reducible first | exact HB.out | apply below_alloc | apply pw_below_drewN | apply below_drew1) | exact HB.out))) : w.heap.size ≤ gb239)); have n4_ := Aside0.mk ((by rw [hg]; exact (below_size (by repeat (first | (with_reducible first | exact HB.out | apply below_alloc | apply pw_below_drewN | apply below_drew1) | exact HB.out))) : w.heap.size ≤ gb239)); clear HO_5; clear HB; have HO_5 := n0_; have HB := n1_; have BK239 := n2_; have GW239 := n3_; have GE239 := n4_; clear n0_ n1_ n2_ n3_ n4_; clear hb hbox hg; have hcz32_0 : w31.cell? ⟨gb239, 0, none⟩ = some (.float .f64 0) := (blk_cell BK239.out 0).trans rfl; have hcz32_1 : w31.cell? ⟨gb239, 1, none⟩ = some (.float .f64 0) := (blk_cell BK239.out 1).trans rfl; have hcz32_2 : w31.cell? ⟨gb239, 2, none⟩ = some (.float .f64 0) := (blk_cell BK239.out 2).trans rfl; have hcz32_3 : w31.cell? ⟨gb239, 3, none⟩ = some (.float .f64 0) := (blk_cell BK239.out 3).trans rfl; have hfz32_0 := blk_frozen BK239.out 0; have hfz32_1 := blk_frozen BK239.out 1; have hfz32_2 := blk_frozen BK239.out 2; have hfz32_3 := blk_frozen BK239.out 3) | ((with_reducible refine gate_dst (N := 19) rfl ?_); refine Kd.R_lit Kd.float _ 45 ?hg (N := 19) ?hd (xs := ([(rd_T88 l0 x10_1).f0, (rd_T88 l0 x10_1).f1] : List Nat)) (inner := [.float .f64 ((rd_T88 l0 x10_1).f0), .float .f64 ((rd_T88 l0 x10_1).f1)]) (ok := fun _ => True) (okp := fun _ => True) ?hr ?hp (fun _ hk => hk) trivial (Below.refl _ _) (Nat.le_refl _) (by simp) ?_; (case hd => rfl); (case hg => rfl); (case hr => first | (go_simp; done) | (go_simp; rfl)); (case hp => exact (Reps.one (show Kd.M Kd.float _ _ _ ((rd_T88 l0 x10_1).f0) [.float .f64 ((rd_T88 l0 x10_1).f0)] from rfl) (Reps.one (show Kd.M Kd.float _ _ _ ((rd_T88 l0 x10_1).f1) [.float .f64 ((rd_T88 l0 x10_1).f1)] from rfl) (Reps.none _ _)))); intro v241 w33 ho34 hb hg_ hnew_; clear hg_ hnew_; (first | rw [← Ny240.out] at ho34 | (simp only [Int.reduceToNat] at ho34; rw [← Ny240.out] at ho34)); have n0_ := Aside0.mk (Kd.R_elder' (by (with_reducible repeat (first | apply Kd.R_alloc | apply Kd.R_drewN | apply Kd.R_drew)); exact (Kd.R_mono (Kd.R_far (p := ⟨gb239, 3, none⟩) (Kd.R_far (p := ⟨gb239, 2, none⟩) (Kd.R_far (p := ⟨gb239, 1, none⟩) (Kd.R_far (p := ⟨gb239, 0, none⟩) (Kd.R_types HO_5.out BK239.out (by decide)) (fun _ hk => hk.2) (.float .f64 ((rd_T88 l0 x10_1).f0))) (fun _ hk => hk.2) (.float .f64 ((rd_T88 l0 x10_1).f1))) (fun _ hk => hk.2) (.float .f64 ((rd_T88 l0 x10_1).f2))) (fun _ hk => hk.2) (.float .f64 ((rd_T88 l0 x10_1).f3))) (fun _ h_ => h_.1))) (Kd.R_base ho34) hb); have n1_ := Aside0.mk (Kd.R_lower (Kd.R_new' ho34 (Kd.R_lt (by (with_reducible repeat (first | apply Kd.R_alloc | apply Kd.R_drewN | apply Kd.R_drew)); exact (Kd.R_mono (Kd.R_far (p := ⟨gb239, 3, none⟩) (Kd.R_far (p := ⟨gb239, 2, none⟩) (Kd.R_far (p := ⟨gb239, 1, none⟩) (Kd.R_far (p := ⟨gb239, 0, none⟩) (Kd.R_types HO_5.out BK239.out (by decide)) (fun _ hk => hk.2) (.float .f64 ((rd_T88 l0 x10_1).f0))) (fun _ hk => hk.2) (.float .f64 ((rd_T88 l0 x10_1).f1))) (fun _ hk => hk.2) (.float .f64 ((rd_T88 l0 x10_1).f2))) (fun _ hk => hk.2) (.float .f64 ((rd_T88 l0 x10_1).f3))) (fun _ h_ => h_.1))))) (below_size (by repeat (first | (with_reducible first | exact HB.out | apply below_alloc | apply pw_below_drewN | apply below_drew1 | refine below_set ?_ GE239.out) | exact HB.out)))); have n2_ := Aside0.mk (blk_below (g := gb239) (o := .cells #[.float .f64 ((rd_T88 l0 x10_1).f0), .float .f64 ((rd_T88 l0 x10_1).f1), .float .f64 ((rd_T88 l0 x10_1).f2), .float .f64 ((rd_T88 l0 x10_1).f3)] 88 (0, 0)) (by (with_reducible repeat (first | refine blk_drewN ?_ _ | refine blk_drew ?_ | refine blk_alloc ?_ _)); refine blk_put (cs := #[.float .f64 ((rd_T88 l0 x10_1).f0), .float .f64 ((rd_T88 l0 x10_1).f1), .float .f64 ((rd_T88 l0 x10_1).f2), .float .f64 0]) ?_ 3 _ rfl; (with_reducible repeat (first | refine blk_drewN ?_ _ | refine blk_drew ?_ | refine blk_alloc ?_ _)); refine blk_put (cs := #[.float .f64 ((rd_T88 l0 x10_1).f0), .float .f64 ((rd_T88 l0 x10_1).f1), .float .f64 0, .float .f64 0]) ?_ 2 _ rfl; (with_reducible repeat (first | refine blk_drewN ?_ _ | refine blk_drew ?_ | refine blk_alloc ?_ _)); refine blk_put (cs := #[.float .f64 ((rd_T88 l0 x10_1).f0), .float .f64 0, .float .f64 0, .float .f64 0]) ?_ 1 _ rfl; (with_reducible repeat (first | refine blk_drewN ?_ _ | refine blk_drew ?_ | refine blk_alloc ?_ _)); refine blk_put (cs := #[.float .f64 0, .float .f64 0, .float .f64 0, .float .f64 0]) ?_ 0 _ rfl; (with_reducible repeat (first | refine blk_drewN ?_ _ | refine blk_drew ?_ | refine blk_alloc ?_ _)); exact BK239.out) hb); have n3_ := Aside0.mk (below_step (by repeat (first | (with_reducible first | exact HB.out | apply below_alloc | apply pw_below_drewN | apply below_drew1 | refine below_set ?_ GE239.out) | exact HB.out)) hb); clear HO_5; clear BK239; clear HB; have HO_5 := n0_; have HO242 := n1_; have BK239 := n2_; have HB := n3_; clear n0_ n1_ n2_ n3_; clear hb ho34; obtain ⟨Ao36, co36, eo36⟩ := Kd.R_slice HO242.out; subst eo36) | ((with_reducible refine gate_builtin (b := .append) (xs := #[.tmp 14, .tmp 19]) rfl ?_); at_builtin; refine Kd.R_append_rows Kd.float (w0 := w) w.heap.size rfl (.tmp 14) (.tmp 19) 22 45 (.float .f64 0) 8 rfl Tryz.underlying22 info45 rfl (by decide) (by omega) u5 x5_1 y240 _ _ _ (fun k_ => some k_ ≠ (.slice Ao36 y240.length co36 : Value).ownBlock) (fun _ => False) rfl rfl ?aO ?aR (fun _ _ h => h) (fun _ h => h.elim) ?aF ?aB ?aS ?aL ?_; (case aR => repeat (first | exact (Kd.R_reads' HO242.out).2.2 | (with_reducible refine Kd.C_alloc ?_ _) | (with_reducible refine Kd.C_drewN ?_ _) | (with_reducible refine Kd.C_drew ?_))); (case aB => exact (by repeat (first | (with_reducible first | exact HB.out | apply below_alloc | apply pw_below_drewN | apply below_drew1 | refine below_set ?_ GE239.out) | exact HB.out))); (case aF => exact (fun k_ hk => Kd.fresh' (Kd.R_lt (by (with_reducible repeat (first | apply Kd.R_alloc | apply Kd.R_drewN | apply Kd.R_drew)); exact HO242.out)) k_ hk)); (case aO => exact (by (with_reducible repeat (first | apply Kd.R_alloc | apply Kd.R_drewN | apply Kd.R_drew)); exact Kd.R_mono HO_5.out (fun _ hk => hk.2))); (case aS => exact (below_size (by repeat (first | (with_reducible first | exact HB.out | apply below_alloc | apply pw_below_drewN | apply below_drew1 | refine below_set ?_ GE239.out) | exact HB.out)))); (case aL => have := LMc6.out; omega); intro v244 w35 ho hb hg hat; rw [← Ny243.out] at ho; have n0_ := Aside0.mk (blk_grown (g := gb239) (o := .cells #[.float .f64 ((rd_T88 l0 x10_1).f0), .float .f64 ((rd_T88 l0 x10_1).f1), .float .f64 ((rd_T88 l0 x10_1).f2), .float .f64 ((rd_T88 l0 x10_1).f3)] 88 (0, 0)) (by (with_reducible repeat (first | refine blk_drewN ?_ _ | refine blk_drew ?_ | refine blk_alloc ?_ _)); exact BK239.out) hg (Kd.R_ne HO_5.out BK239.out (by decide))); have n1_ := Aside0.mk (Kd.R_after (ok := (fun _ => True)) (by (with_reducible repeat (first | apply Kd.R_alloc | apply Kd.R_drewN | apply Kd.R_drew)); exact HO242.out) hg hat); have n2_ := Aside0.mk (hb); have n3_ := Aside0.mk (ho); clear BK239; clear HO242; clear HB; clear HO_5; have BK239 := n0_; have HO242 := n1_; have HB := n2_; have HO245 := n3_; clear n0_ n1_ n2_ n3_; clear ho hb hg hat; have hcz37_0 : w35.cell? ⟨gb239, 0, none⟩ = some (.float .f64 ((rd_T88 l0 x10_1).f0)) := (blk_cell BK239.out 0).trans rfl; have hcz37_1 : w35.cell? ⟨gb239, 1, none⟩ = some (.float .f64 ((rd_T88 l0 x10_1).f1)) := (blk_cell BK239.out 1).trans rfl; have hcz37_2 : w35.cell? ⟨gb239, 2, none⟩ = some (.float .f64 ((rd_T88 l0 x10_1).f2)) := (blk_cell BK239.out 2).trans rfl; have hcz37_3 : w35.cell? ⟨gb239, 3, none⟩ = some (.float .f64 ((rd_T88 l0 x10_1).f3)) := (blk_cell BK239.out 3).trans rfl; have hfz37_0 := blk_frozen BK239.out 0; have hfz37_1 := blk_frozen BK239.out 1; have hfz37_2 := blk_frozen BK239.out 2; have hfz37_3 := blk_frozen BK239.out 3) | ((with_reducible refine gate_builtin (b := .append) (xs := #[.tmp 32, .tmp 35]) rfl ?_); at_builtin; refine Kd.R_append Kd.float (w0 := w) w.heap.size rfl (.tmp 32) (.tmp 35) 22 45 (.float .f64 0) 8 rfl Tryz.underlying22 info45 rfl (by decide) (by omega) v244 y243 ((rd_T88 l0 x10_1).f3) [.float .f64 ((rd_T88 l0 x10_1).f3)] (fun k_ => some k_ ≠ (.slice Ao36 y240.length co36 : Value).ownBlock) (fun _ => False) rfl rfl ?aP (fun _ hk => hk.elim) ?aF ?aO ?aB ?aS ?aL ?_; (case aP => exact rfl); (case aB => exact (by repeat (first | (with_reducible first | exact HB.out | apply below_alloc | apply pw_below_drewN | apply below_drew1 | refine below_set ?_ GE239.out) | exact HB.out))); (case aF => exact (fun k_ hk => Kd.fresh' (Kd.R_lt (by (with_reducible repeat (first | apply Kd.R_alloc | apply Kd.R_drewN | apply Kd.R_drew)); exact HO242.out)) k_ hk)); (case aO => exact (by (with_reducible repeat (first | apply Kd.R_alloc | apply Kd.R_drewN | apply Kd.R_drew)); exact HO245.out)); (case aS => exact (below_size (by repeat (first | (with_reducible first | exact HB.out | apply below_alloc | apply pw_below_drewN | apply below_drew1 | refine below_set ?_ GE239.out) | exact HB.out)))); (case aL => have := LMc30.out; omega); intro v253 w38 ho hb hg hat; rw [← Ny252.out] at ho; have n0_ := Aside0.mk (blk_grown (g := gb239) (o := .cells #[.float .f64 ((rd_T88 l0 x10_1).f0), .float .f64 ((rd_T88 l0 x10_1).f1), .float .f64 ((rd_T88 l0 x10_1).f2), .float .f64 ((rd_T88 l0 x10_1).f3)] 88 (0, 0)) (by (with_reducible repeat (first | refine blk_drewN ?_ _ | refine blk_drew ?_ | refine blk_alloc ?_ _)); exact BK239.out) hg (Kd.R_ne HO245.out BK239.out (by decide))); have n1_ := Aside0.mk (Kd.R_after (ok := (fun _ => True)) (by (with_reducible repeat (first | apply Kd.R_alloc | apply Kd.R_drewN | apply Kd.R_drew)); exact HO242.out) hg hat); have n2_ := Aside0.mk (hb); have n3_ := Aside0.mk (ho); clear BK239; clear HO242; clear HB; clear HO245; have BK239 := n0_; have HO242 := n1_; have HB := n2_; have HO254 := n3_; clear n0_ n1_ n2_ n3_; clear ho hb hg hat))
                    go_roundg k1
                    case measure => have := HK1.out; omega
                    case rel => exact ⟨(y252), (wrap64 (x10_1 + 1)), (by first | rfl | (simp; done) | (simp [*]; done)), H', ⟨by have := HK1.out; omega⟩, ⟨by (with_reducible repeat (first | apply Kd.R_alloc | apply Kd.R_drewN | apply Kd.R_drew)); exact Kd.R_mono HO254.out (fun _ hk => trivial)⟩, ⟨by repeat (first | (with_reducible first | exact HB.out | apply below_alloc | apply pw_below_drewN | apply below_drew1 | refine below_set ?_ GE239.out) | exact HB.out)⟩⟩
                  · rw [if_neg c30] at H
                    exact absurd H (by simp)
                · rw [if_neg c29] at H
                  have c29b0 : ((Go.bits .and .i64 a1 2) == 2) = false := beq_eq_false_iff_ne.mpr c29
                  have c29b1 : ((Go.bits .and .i64 a1 2) != 2) = true := bne_iff_ne.mpr c29
                  have H' := Aside0.mk H
                  clear H
                  have p238 : 0 ≤ (x10_1 : Int) := of_decide_eq_true (by first | (with_reducible assumption) | assumption)
                  have q238 : x10_1 < (l0.length : Int) := of_decide_eq_true (by first | (with_reducible assumption) | assumption)
                  obtain ⟨ad238, e238, hx238_0, hx238_1, hx238_2, hx238_3⟩ := at_T88 HR0.out x10_1 p238 q238
                  cases e238
                  replace hx238_0 := (HB.out.cell (World.block_lt_of_cell? w _ hx238_0)).trans hx238_0
                  replace hx238_1 := (HB.out.cell (World.block_lt_of_cell? w _ hx238_1)).trans hx238_1
                  replace hx238_2 := (HB.out.cell (World.block_lt_of_cell? w _ hx238_2)).trans hx238_2
                  replace hx238_3 := (HB.out.cell (World.block_lt_of_cell? w _ hx238_3)).trans hx238_3
                  replace p238 := eq_true p238
                  replace q238 := eq_true q238
                  go_wp2_with (first | ((with_reducible refine gate_dst (N := 7) rfl ?_); refine box_event ?hg (N := 7) ?hd (cs := #[.float .f64 0, .float .f64 0, .float .f64 0, .float .f64 0]) (t := 88) ?hr ?_; (case hd => rfl); (case hg => rfl); (case hr => first | (go_simp; done) | (go_simp; rfl)); intro gb239 hg w39 hbox hb; have n0_ := Aside0.mk (Kd.R_below (by (with_reducible repeat (first | apply Kd.R_alloc | apply Kd.R_drewN | apply Kd.R_drew)); exact HO_5.out) hb); have n1_ := Aside0.mk (below_step (by repeat (first | (with_reducible first | exact HB.out | apply below_alloc | apply pw_below_drewN | apply below_drew1) | exact HB.out)) hb); have n2_ := Aside0.mk (hbox); have n3_ := Aside0.mk ((by rw [hg]; exact (below_size (by repeat (first | (with_reducible first | exact HB.out | apply below_alloc | apply pw_below_drewN | apply below_drew1) | exact HB.out))) : w.heap.size ≤ gb239)); have n4_ := Aside0.mk ((by rw [hg]; exact (below_size (by repeat (first | (with_reducible first | exact HB.out | apply below_alloc | apply pw_below_drewN | apply below_drew1) | exact HB.out))) : w.heap.size ≤ gb239)); clear HO_5; clear HB; have HO_5 := n0_; have HB := n1_; have BK239 := n2_; have GW239 := n3_; have GE239 := n4_; clear n0_ n1_ n2_ n3_ n4_; clear hb hbox hg; have hcz40_0 : w39.cell? ⟨gb239, 0, none⟩ = some (.float .f64 0) := (blk_cell BK239.out 0).trans rfl; have hcz40_1 : w39.cell? ⟨gb239, 1, none⟩ = some (.float .f64 0) := (blk_cell BK239.out 1).trans rfl; have hcz40_2 : w39.cell? ⟨gb239, 2, none⟩ = some (.float .f64 0) := (blk_cell BK239.out 2).trans rfl; have hcz40_3 : w39.cell? ⟨gb239, 3, none⟩ = some (.float .f64 0) := (blk_cell BK239.out 3).trans rfl; have hfz40_0 := blk_frozen BK239.out 0; have hfz40_1 := blk_frozen BK239.out 1; have hfz40_2 := blk_frozen BK239.out 2; have hfz40_3 := blk_frozen BK239.out 3) | ((with_reducible refine gate_dst (N := 19) rfl ?_); refine Kd.R_lit Kd.float _ 45 ?hg (N := 19) ?hd (xs := ([(rd_T88 l0 x10_1).f0, (rd_T88 l0 x10_1).f1] : List Nat)) (inner := [.float .f64 ((rd_T88 l0 x10_1).f0), .float .f64 ((rd_T88 l0 x10_1).f1)]) (ok := fun _ => True) (okp := fun _ => True) ?hr ?hp (fun _ hk => hk) trivial (Below.refl _ _) (Nat.le_refl _) (by simp) ?_; (case hd => rfl); (case hg => rfl); (case hr => first | (go_simp; done) | (go_simp; rfl)); (case hp => exact (Reps.one (show Kd.M Kd.float _ _ _ ((rd_T88 l0 x10_1).f0) [.float .f64 ((rd_T88 l0 x10_1).f0)] from rfl) (Reps.one (show Kd.M Kd.float _ _ _ ((rd_T88 l0 x10_1).f1) [.float .f64 ((rd_T88 l0 x10_1).f1)] from rfl) (Reps.none _ _)))); intro v241 w41 ho42 hb hg_ hnew_; clear hg_ hnew_; (first | rw [← Ny240.out] at ho42 | (simp only [Int.reduceToNat] at ho42; rw [← Ny240.out] at ho42)); have n0_ := Aside0.mk (Kd.R_elder' (by (with_reducible repeat (first | apply Kd.R_alloc | apply Kd.R_drewN | apply Kd.R_drew)); exact (Kd.R_mono (Kd.R_far (p := ⟨gb239, 3, none⟩) (Kd.R_far (p := ⟨gb239, 2, none⟩) (Kd.R_far (p := ⟨gb239, 1, none⟩) (Kd.R_far (p := ⟨gb239, 0, none⟩) (Kd.R_types HO_5.out BK239.out (by decide)) (fun _ hk => hk.2) (.float .f64 ((rd_T88 l0 x10_1).f0))) (fun _ hk => hk.2) (.float .f64 ((rd_T88 l0 x10_1).f1))) (fun _ hk => hk.2) (.float .f64 ((rd_T88 l0 x10_1).f2))) (fun _ hk => hk.2) (.float .f64 ((rd_T88 l0 x10_1).f3))) (fun _ h_ => h_.1))) (Kd.R_base ho42) hb); have n1_ := Aside0.mk (Kd.R_lower (Kd.R_new' ho42 (Kd.R_lt (by (with_reducible repeat (first | apply Kd.R_alloc | apply Kd.R_drewN | apply Kd.R_drew)); exact (Kd.R_mono (Kd.R_far (p := ⟨gb239, 3, none⟩) (Kd.R_far (p := ⟨gb239, 2, none⟩) (Kd.R_far (p := ⟨gb239, 1, none⟩) (Kd.R_far (p := ⟨gb239, 0, none⟩) (Kd.R_types HO_5.out BK239.out (by decide)) (fun _ hk => hk.2) (.float .f64 ((rd_T88 l0 x10_1).f0))) (fun _ hk => hk.2) (.float .f64 ((rd_T88 l0 x10_1).f1))) (fun _ hk => hk.2) (.float .f64 ((rd_T88 l0 x10_1).f2))) (fun _ hk => hk.2) (.float .f64 ((rd_T88 l0 x10_1).f3))) (fun _ h_ => h_.1))))) (below_size (by repeat (first | (with_reducible first | exact HB.out | apply below_alloc | apply pw_below_drewN | apply below_drew1 | refine below_set ?_ GE239.out) | exact HB.out)))); have n2_ := Aside0.mk (blk_below (g := gb239) (o := .cells #[.float .f64 ((rd_T88 l0 x10_1).f0), .float .f64 ((rd_T88 l0 x10_1).f1), .float .f64 ((rd_T88 l0 x10_1).f2), .float .f64 ((rd_T88 l0 x10_1).f3)] 88 (0, 0)) (by (with_reducible repeat (first | refine blk_drewN ?_ _ | refine blk_drew ?_ | refine blk_alloc ?_ _)); refine blk_put (cs := #[.float .f64 ((rd_T88 l0 x10_1).f0), .float .f64 ((rd_T88 l0 x10_1).f1), .float .f64 ((rd_T88 l0 x10_1).f2), .float .f64 0]) ?_ 3 _ rfl; (with_reducible repeat (first | refine blk_drewN ?_ _ | refine blk_drew ?_ | refine blk_alloc ?_ _)); refine blk_put (cs := #[.float .f64 ((rd_T88 l0 x10_1).f0), .float .f64 ((rd_T88 l0 x10_1).f1), .float .f64 0, .float .f64 0]) ?_ 2 _ rfl; (with_reducible repeat (first | refine blk_drewN ?_ _ | refine blk_drew ?_ | refine blk_alloc ?_ _)); refine blk_put (cs := #[.float .f64 ((rd_T88 l0 x10_1).f0), .float .f64 0, .float .f64 0, .float .f64 0]) ?_ 1 _ rfl; (with_reducible repeat (first | refine blk_drewN ?_ _ | refine blk_drew ?_ | refine blk_alloc ?_ _)); refine blk_put (cs := #[.float .f64 0, .float .f64 0, .float .f64 0, .float .f64 0]) ?_ 0 _ rfl; (with_reducible repeat (first | refine blk_drewN ?_ _ | refine blk_drew ?_ | refine blk_alloc ?_ _)); exact BK239.out) hb); have n3_ := Aside0.mk (below_step (by repeat (first | (with_reducible first | exact HB.out | apply below_alloc | apply pw_below_drewN | apply below_drew1 | refine below_set ?_ GE239.out) | exact HB.out)) hb); clear HO_5; clear BK239; clear HB; have HO_5 := n0_; have HO242 := n1_; have BK239 := n2_; have HB := n3_; clear n0_ n1_ n2_ n3_; clear hb ho42; obtain ⟨Ao44, co44, eo44⟩ := Kd.R_slice HO242.out; subst eo44) | ((with_reducible refine gate_builtin (b := .append) (xs := #[.tmp 14, .tmp 19]) rfl ?_); at_builtin; refine Kd.R_append_rows Kd.float (w0 := w) w.heap.size rfl (.tmp 14) (.tmp 19) 22 45 (.float .f64 0) 8 rfl Tryz.underlying22 info45 rfl (by decide) (by omega) u5 x5_1 y240 _ _ _ (fun k_ => some k_ ≠ (.slice Ao44 y240.length co44 : Value).ownBlock) (fun _ => False) rfl rfl ?aO ?aR (fun _ _ h => h) (fun _ h => h.elim) ?aF ?aB ?aS ?aL ?_; (case aR => repeat (first | exact (Kd.R_reads' HO242.out).2.2 | (with_reducible refine Kd.C_alloc ?_ _) | (with_reducible refine Kd.C_drewN ?_ _) | (with_reducible refine Kd.C_drew ?_))); (case aB => exact (by repeat (first | (with_reducible first | exact HB.out | apply below_alloc | apply pw_below_drewN | apply below_drew1 | refine below_set ?_ GE239.out) | exact HB.out))); (case aF => exact (fun k_ hk => Kd.fresh' (Kd.R_lt (by (with_reducible repeat (first | apply Kd.R_alloc | apply Kd.R_drewN | apply Kd.R_drew)); exact HO242.out)) k_ hk)); (case aO => exact (by (with_reducible repeat (first | apply Kd.R_alloc | apply Kd.R_drewN | apply Kd.R_drew)); exact Kd.R_mono HO_5.out (fun _ hk => hk.2))); (case aS => exact (below_size (by repeat (first | (with_reducible first | exact HB.out | apply below_alloc | apply pw_below_drewN | apply below_drew1 | refine below_set ?_ GE239.out) | exact HB.out)))); (case aL => have := LMc6.out; omega); intro v244 w43 ho hb hg hat; rw [← Ny243.out] at ho; have n0_ := Aside0.mk (blk_grown (g := gb239) (o := .cells #[.float .f64 ((rd_T88 l0 x10_1).f0), .float .f64 ((rd_T88 l0 x10_1).f1), .float .f64 ((rd_T88 l0 x10_1).f2), .float .f64 ((rd_T88 l0 x10_1).f3)] 88 (0, 0)) (by (with_reducible repeat (first | refine blk_drewN ?_ _ | refine blk_drew ?_ | refine blk_alloc ?_ _)); exact BK239.out) hg (Kd.R_ne HO_5.out BK239.out (by decide))); have n1_ := Aside0.mk (Kd.R_after (ok := (fun _ => True)) (by (with_reducible repeat (first | apply Kd.R_alloc | apply Kd.R_drewN | apply Kd.R_drew)); exact HO242.out) hg hat); have n2_ := Aside0.mk (hb); have n3_ := Aside0.mk (ho); clear BK239; clear HO242; clear HB; clear HO_5; have BK239 := n0_; have HO242 := n1_; have HB := n2_; have HO245 := n3_; clear n0_ n1_ n2_ n3_; clear ho hb hg hat))
                  go_roundg k1
                  case measure => have := HK1.out; omega
                  case rel => exact ⟨(y243), (wrap64 (x10_1 + 1)), (by first | rfl | (simp; done) | (simp [*]; done)), H', ⟨by have := HK1.out; omega⟩, ⟨by (with_reducible repeat (first | apply Kd.R_alloc | apply Kd.R_drewN | apply Kd.R_drew)); exact Kd.R_mono HO245.out (fun _ hk => trivial)⟩, ⟨by repeat (first | (with_reducible first | exact HB.out | apply below_alloc | apply pw_below_drewN | apply below_drew1 | refine below_set ?_ GE239.out) | exact HB.out)⟩⟩
            · rw [if_neg c6] at H
              exact absurd H (by simp)
          · rw [if_neg c5] at H
            exact absurd H (by simp)
        · rw [if_neg c4] at H
          exact absurd H (by simp)
      · rw [if_neg c3] at H
        have c3b0 : decide (x10_1 < (l0.length : Int)) = false := decide_eq_false c3
        clear c3
        obtain rfl := Option.some.inj H
        go_wp2
        go_ret
        exact ⟨_, by first | rfl | (simp [errW_none, errW_some] <;> rfl) | (simp [*, errW_none, errW_some] <;> rfl), by (with_reducible repeat (first | apply Kd.R_alloc | apply Kd.R_drewN | apply Kd.R_drew)); exact HO_5.out, by repeat (first | (with_reducible first | exact HB.out | apply below_alloc | apply pw_below_drewN | apply below_drew1) | exact HB.out)⟩

-- NOT PRINTED: function 141 (strconv_FormatFloat_141)

-- NOT PRINTED: function 130 (strconv_FormatFloat_130)

/-! ### spec_writePlace: function 59 -/
def spec_writePlace.l0 : Nat → ByteArray → List Nat → Int → Int → Option (ByteArray)
  | 0, _, _, _, _ => none
  | k + 1, x5, x11, x12, x13 => if x13 < x12 then (if 0 ≤ x13 then (if x13 < (x11.length : Int) then (if x13 > 0 then (if x5.size + 1 ≤ 9223372036854775807 then ((spec_WriteNumber.f (rdOf (0 : Nat) x11 x13)).bind fun t263 => (if (x5 ++ (⟨#[32]⟩ : ByteArray)).size + t263.size ≤ 9223372036854775807 then (spec_writePlace.l0 k ((x5 ++ (⟨#[32]⟩ : ByteArray)) ++ t263) x11 x12 (wrap64 (x13 + 1))) else (none))) else (none)) else ((spec_WriteNumber.f (rdOf (0 : Nat) x11 x13)).bind fun t264 => (if x5.size + t264.size ≤ 9223372036854775807 then (spec_writePlace.l0 k (x5 ++ t264) x11 x12 (wrap64 (x13 + 1))) else (none)))) else (none)) else (none)) else (some x5)
def spec_writePlace.f (k : Nat) (a0_0 : Nat) (a0_1 : Nat) (a0_2 : Nat) (a0_3 : Nat) (a1 : Int) : Option (ByteArray) := (spec_Nums.f k (([(⟨a0_0, a0_1, a0_2, a0_3⟩ : S88)] : List (S88))) a1).bind fun t259 => (spec_writePlace.l0 k (⟨#[]⟩ : ByteArray) t259 (t259.length : Int) 0)
theorem spec_writePlace.mono_l : ∀ k, (∀ y0 y1 y2 y3, LeO (spec_writePlace.l0 k y0 y1 y2 y3) (spec_writePlace.l0 (k + 1) y0 y1 y2 y3))
  | 0 => fun _ _ _ _ r h => by simp [spec_writePlace.l0] at h
  | k + 1 => by
    have ih0 := spec_writePlace.mono_l k
    · intro y0 y1 y2 y3
      unfold spec_writePlace.l0
      repeat' first
      | (with_reducible exact ih0 _ _ _ _)
      | (with_reducible exact spec_Nums.mono _ _ _)
      | (with_reducible exact LeO.refl _)
      | (with_reducible exact LeO.none _)
      | (with_reducible refine LeO.ite ?_ ?_)
      | (with_reducible refine LeO.bind ?_ (fun _ => ?_))
      | exact ih0 _ _ _ _
      | exact spec_Nums.mono _ _ _
      | exact LeO.none _
      | refine LeO.ite ?_ ?_
      | refine LeO.bind ?_ (fun _ => ?_)
theorem spec_writePlace.mono : ∀ a0 a1 a2 a3 a4 k, LeO (spec_writePlace.f k a0 a1 a2 a3 a4) (spec_writePlace.f (k + 1) a0 a1 a2 a3 a4) := by
  intro a0 a1 a2 a3 a4 k
  have ih0 := spec_writePlace.mono_l k
  unfold spec_writePlace.f
  repeat' first
      | (with_reducible exact ih0 _ _ _ _)
      | (with_reducible exact spec_Nums.mono _ _ _)
      | (with_reducible exact LeO.refl _)
      | (with_reducible exact LeO.none _)
      | (with_reducible refine LeO.ite ?_ ?_)
      | (with_reducible refine LeO.bind ?_ (fun _ => ?_))
      | exact ih0 _ _ _ _
      | exact spec_Nums.mono _ _ _
      | exact LeO.none _
      | refine LeO.ite ?_ ?_
      | refine LeO.bind ?_ (fun _ => ?_)
set_option maxHeartbeats 8000000 in
set_option maxRecDepth 100000 in
theorem spec_writePlace.calls (k : Nat) (a0_0 : Nat) (a0_1 : Nat) (a0_2 : Nat) (a0_3 : Nat) (a1 : Int) (r : ByteArray) (w : World) (hG : Glob w) (h : spec_writePlace.f k a0_0 a0_1 a0_2 a0_3 a1 = some r) :
    Calls Tryz.prog 59 #[.agg #[.float .f64 a0_0, .float .f64 a0_1, .float .f64 a0_2, .float .f64 a0_3], .int .i64 a1] w fun e w' => e = .returned (.string r) ∧ Below w.heap.size w w' := by
  have hu88 := Tryz.underlying88
  have HB := Aside0.mk (Below.refl w.heap.size w)
  have H : ((spec_Nums.f k (([(⟨a0_0, a0_1, a0_2, a0_3⟩ : S88)] : List (S88))) a1).bind fun t259 => (spec_writePlace.l0 k (⟨#[]⟩ : ByteArray) t259 (t259.length : Int) 0)) = some r := h
  clear h
  obtain ⟨y256, hy256⟩ : ∃ y_ : List (S88), y_ = (([(⟨a0_0, a0_1, a0_2, a0_3⟩ : S88)] : List (S88))) := ⟨_, rfl⟩
  replace H : ((spec_Nums.f k y256 a1).bind fun t259 => (spec_writePlace.l0 k (⟨#[]⟩ : ByteArray) t259 (t259.length : Int) 0)) = some r := by first | (rw [hy256]; with_reducible exact H) | (have H2_ := (Option.bind_some _ _).symm.trans H; rw [hy256]; with_reducible exact H2_) | (have H2_ := (Option.bind_some _ _).symm.trans H; with_reducible exact H2_) | with_reducible exact H | (rw [hy256]; exact H) | exact H
  have Ny256 := Aside0.mk hy256
  clear hy256
  replace H := Option.bind_eq_some_iff.mp H
  obtain ⟨t259, A30, H⟩ := H
  replace H : (spec_writePlace.l0 k (⟨#[]⟩ : ByteArray) t259 (t259.length : Int) 0) = some r := H
  have A3 := Aside0.mk A30
  clear A30
  have H' := Aside0.mk H
  clear H
  go_enter Tryz.func59, Tryz.ntmps59
  go_wp2_with (first | ((with_reducible refine gate_dst (N := 2) rfl ?_); refine box_event ?hg (N := 2) ?hd (cs := #[.float .f64 a0_0, .float .f64 a0_1, .float .f64 a0_2, .float .f64 a0_3]) (t := 88) ?hr ?_; (case hd => rfl); (case hg => rfl); (case hr => first | (go_simp; done) | (go_simp; rfl)); intro gb255 hg w4 hbox hb; have n0_ := Aside0.mk (below_step (by repeat (first | (with_reducible first | exact HB.out | apply below_alloc | apply pw_below_drewN | apply below_drew1) | exact HB.out)) hb); have n1_ := Aside0.mk (hbox); have n2_ := Aside0.mk ((by rw [hg]; exact (below_size (by repeat (first | (with_reducible first | exact HB.out | apply below_alloc | apply pw_below_drewN | apply below_drew1) | exact HB.out))) : w.heap.size ≤ gb255)); have n3_ := Aside0.mk ((by rw [hg]; exact (below_size (by repeat (first | (with_reducible first | exact HB.out | apply below_alloc | apply pw_below_drewN | apply below_drew1) | exact HB.out))) : w.heap.size ≤ gb255)); clear HB; have HB := n0_; have BK255 := n1_; have GW255 := n2_; have GE255 := n3_; clear n0_ n1_ n2_ n3_; clear hb hbox hg; have hcz5_0 : w4.cell? ⟨gb255, 0, none⟩ = some (.float .f64 a0_0) := (blk_cell BK255.out 0).trans rfl; have hcz5_1 : w4.cell? ⟨gb255, 1, none⟩ = some (.float .f64 a0_1) := (blk_cell BK255.out 1).trans rfl; have hcz5_2 : w4.cell? ⟨gb255, 2, none⟩ = some (.float .f64 a0_2) := (blk_cell BK255.out 2).trans rfl; have hcz5_3 : w4.cell? ⟨gb255, 3, none⟩ = some (.float .f64 a0_3) := (blk_cell BK255.out 3).trans rfl; have hfz5_0 := blk_frozen BK255.out 0; have hfz5_1 := blk_frozen BK255.out 1; have hfz5_2 := blk_frozen BK255.out 2; have hfz5_3 := blk_frozen BK255.out 3) | ((with_reducible refine gate_dst (N := 9) rfl ?_); refine Kd.R_lit k88 _ 88 ?hg (N := 9) ?hd (xs := ([(⟨a0_0, a0_1, a0_2, a0_3⟩ : S88)] : List (S88))) (inner := [.float .f64 a0_0, .float .f64 a0_1, .float .f64 a0_2, .float .f64 a0_3]) (ok := fun _ => True) (okp := fun _ => True) ?hr ?hp (fun _ hk => hk) trivial (Below.refl _ _) (Nat.le_refl _) (by simp) ?_; (case hd => rfl); (case hg => rfl); (case hr => first | (go_simp; done) | (go_simp; rfl)); (case hp => exact (Reps.c4 (show Kd.M k88 _ _ _ (⟨a0_0, a0_1, a0_2, a0_3⟩ : S88) [.float .f64 a0_0, .float .f64 a0_1, .float .f64 a0_2, .float .f64 a0_3] from (k88_mkM _ _ _ (⟨a0_0, a0_1, a0_2, a0_3⟩ : S88) )) (Reps.none _ _))); intro v257 w6 ho7 hb hg_ hnew_; clear hg_ hnew_; (first | rw [← Ny256.out] at ho7 | (simp only [Int.reduceToNat] at ho7; rw [← Ny256.out] at ho7)); have n0_ := Aside0.mk (Kd.R_lower (Kd.R_newB ho7 (g := gb255) (o := .cells #[.float .f64 a0_0, .float .f64 a0_1, .float .f64 a0_2, .float .f64 a0_3] 88 (0, 0)) (by (with_reducible repeat (first | refine blk_drewN ?_ _ | refine blk_drew ?_ | refine blk_alloc ?_ _)); exact BK255.out)) (below_size (by repeat (first | (with_reducible first | exact HB.out | apply below_alloc | apply pw_below_drewN | apply below_drew1 | refine below_set ?_ GE255.out) | exact HB.out)))); have n1_ := Aside0.mk (blk_below (g := gb255) (o := .cells #[.float .f64 a0_0, .float .f64 a0_1, .float .f64 a0_2, .float .f64 a0_3] 88 (0, 0)) (by (with_reducible repeat (first | refine blk_drewN ?_ _ | refine blk_drew ?_ | refine blk_alloc ?_ _)); exact BK255.out) hb); have n2_ := Aside0.mk (below_step (by repeat (first | (with_reducible first | exact HB.out | apply below_alloc | apply pw_below_drewN | apply below_drew1 | refine below_set ?_ GE255.out) | exact HB.out)) hb); clear BK255; clear HB; have HO258 := n0_; have BK255 := n1_; have HB := n2_; clear n0_ n1_ n2_; clear hb ho7; obtain ⟨Ao8, co8, eo8⟩ := Kd.R_slice HO258.out; subst eo8) | ((with_reducible refine gate_callee (f := 60) rfl ?_); refine goesL_ (some 11) rfl rfl Tryz.func60 (by kernel_rfl) rfl #[.slice Ao8 y256.length co8, .int .i64 a1] rfl (by (try simp only [List.map_toArray, List.map_cons, List.map_nil]); first | done | rfl | (simp only [List.length_drop, List.length_take]; rfl)) ?_; (with_reducible refine (spec_Nums.calls k _ _ y256 a1 t259 _ ?side1 ?side2 A3.out).mono ?_); (case side1 => repeat (first | exact (Kd.R_reads' HO258.out).2.2 | (with_reducible refine Kd.C_alloc ?_ _) | (with_reducible refine Kd.C_drewN ?_ _) | (with_reducible refine Kd.C_drew ?_))); (case side2 => exact (Kd.R_reads' HO258.out).2.1); rintro e w9 ⟨v260, rfl, ho0, hb⟩; refine ⟨_, rfl, ?_⟩; have n0_ := Aside0.mk (Kd.R_below (by (with_reducible repeat (first | apply Kd.R_alloc | apply Kd.R_drewN | apply Kd.R_drew)); exact HO258.out) hb); have n1_ := Aside0.mk (Kd.R_lower ho0 (below_size (by repeat (first | (with_reducible first | exact HB.out | apply below_alloc | apply pw_below_drewN | apply below_drew1 | refine below_set ?_ GE255.out) | exact HB.out)))); have n2_ := Aside0.mk (blk_below (g := gb255) (o := .cells #[.float .f64 a0_0, .float .f64 a0_1, .float .f64 a0_2, .float .f64 a0_3] 88 (0, 0)) (by (with_reducible repeat (first | refine blk_drewN ?_ _ | refine blk_drew ?_ | refine blk_alloc ?_ _)); exact BK255.out) hb); have n3_ := Aside0.mk (below_step (by repeat (first | (with_reducible first | exact HB.out | apply below_alloc | apply pw_below_drewN | apply below_drew1 | refine below_set ?_ GE255.out) | exact HB.out)) hb); clear HO258; clear BK255; clear HB; have HO258 := n0_; have HO261 := n1_; have BK255 := n2_; have HB := n3_; clear n0_ n1_ n2_ n3_; (try clear hb); (try clear hb2); (try clear hk); (try clear hi); (try clear ho0); obtain ⟨Ao10, co10, eo10⟩ := Kd.R_slice HO261.out; subst eo10))
  go_loopg [5, 13] k (fun kq v5 v13 w' => ∃ (x5_1 : ByteArray) (x13_1 : Int), v5 = .string x5_1 ∧ v13 = .int .i64 x13_1 ∧ Aside0 (spec_writePlace.l0 kq x5_1 t259 (t259.length : Int) x13_1 = some r) ∧ Aside0 (kq ≤ k) ∧ Aside0 (Kd.R Kd.float 45 w' w.heap.size (fun _ => True) (.slice Ao10 t259.length co10) t259) ∧ Aside0 (w'.heap[gb255]? = some (.cells #[.float .f64 a0_0, .float .f64 a0_1, .float .f64 a0_2, .float .f64 a0_3] 88 (0, 0))) ∧ Aside0 (Below w.heap.size w w'))
  case atStart => exact ⟨((⟨#[]⟩ : ByteArray)), (0), (by first | rfl | (simp; done) | (simp [*]; done)), (by first | rfl | (simp; done) | (simp [*]; done)), H', ⟨Nat.le_refl _⟩, ⟨by (with_reducible repeat (first | apply Kd.R_alloc | apply Kd.R_drewN | apply Kd.R_drew)); exact HO261.out⟩, ⟨by (with_reducible repeat (first | refine blk_drewN ?_ _ | refine blk_drew ?_ | refine blk_alloc ?_ _)); exact BK255.out⟩, ⟨by repeat (first | (with_reducible first | exact HB.out | apply below_alloc | apply pw_below_drewN | apply below_drew1 | refine below_set ?_ GE255.out) | exact HB.out)⟩⟩
  case round =>
    clear H'
    try clear p2
    try clear c4
    try clear c5
    try clear c6
    try clear hcz5_0
    try clear hcz5_1
    try clear hcz5_2
    try clear hcz5_3
    try clear hfz5_0
    try clear hfz5_1
    try clear hfz5_2
    try clear hfz5_3
    obtain ⟨x5_1, x13_1, rfl, rfl, HA, HK1, HO_11, BK255, HB⟩ := hrel
    cases gk with
    | zero => exact absurd HA.out (by simp [spec_writePlace.l0])
    | succ k1 =>
      have H := HA.out
      clear HA
      simp only [spec_writePlace.l0] at H
      by_cases c11 : x13_1 < (t259.length : Int)
      · rw [if_pos c11] at H
        have c11b0 : decide (x13_1 < (t259.length : Int)) = true := decide_eq_true c11
        clear c11
        by_cases c12 : 0 ≤ x13_1
        · rw [if_pos c12] at H
          have c12b0 : decide (0 ≤ x13_1) = true := decide_eq_true c12
          clear c12
          by_cases c13 : x13_1 < (t259.length : Int)
          · rw [if_pos c13] at H
            have c13b0 : decide (x13_1 < (t259.length : Int)) = true := decide_eq_true c13
            clear c13
            by_cases c14 : x13_1 > 0
            · rw [if_pos c14] at H
              have c14b0 : decide (0 < x13_1) = true := decide_eq_true c14
              clear c14
              by_cases c15 : x5_1.size + 1 ≤ 9223372036854775807
              · rw [if_pos c15] at H
                have c15b0 := eq_true c15
                have c15b1 : decide (x5_1.size + 1 ≤ 9223372036854775807) = true := decide_eq_true c15
                try have c15b2 : (9223372036854775807 < x5_1.size + 1) = False := eq_false (Nat.not_lt.2 c15)
                replace H := Option.bind_eq_some_iff.mp H
                obtain ⟨t263, A160, H⟩ := H
                replace H : (if (x5_1 ++ (⟨#[32]⟩ : ByteArray)).size + t263.size ≤ 9223372036854775807 then (spec_writePlace.l0 k1 ((x5_1 ++ (⟨#[32]⟩ : ByteArray)) ++ t263) t259 (t259.length : Int) (wrap64 (x13_1 + 1))) else (none)) = some r := H
                have A16 := Aside0.mk A160
                clear A160
                by_cases c17 : (x5_1 ++ (⟨#[32]⟩ : ByteArray)).size + t263.size ≤ 9223372036854775807
                · rw [if_pos c17] at H
                  have c17b0 := eq_true c17
                  have c17b1 : decide ((x5_1 ++ (⟨#[32]⟩ : ByteArray)).size + t263.size ≤ 9223372036854775807) = true := decide_eq_true c17
                  try have c17b2 : (9223372036854775807 < (x5_1 ++ (⟨#[32]⟩ : ByteArray)).size + t263.size) = False := eq_false (Nat.not_lt.2 c17)
                  (try (have c17b5 := c17; simp only [ByteArray.size_append, show (⟨#[32]⟩ : ByteArray).size = 1 from rfl] at c17b5))
                  have H' := Aside0.mk H
                  clear H
                  have p262 : 0 ≤ (x13_1 : Int) := of_decide_eq_true (by first | (with_reducible assumption) | assumption)
                  have q262 : x13_1 < (t259.length : Int) := of_decide_eq_true (by first | (with_reducible assumption) | assumption)
                  obtain ⟨ad262, e262, hx262_0⟩ := Kd.at_float (Kd.R_reads' HO_11.out).2.2 x13_1 p262 q262
                  cases e262
                  replace p262 := eq_true p262
                  replace q262 := eq_true q262
                  go_wp2_with (first | ((with_reducible refine gate_callee (f := 110) rfl ?_); refine goesL_ (some 24) rfl rfl Tryz.func110 (by kernel_rfl) rfl #[.float .f64 (rdOf (0 : Nat) t259 x13_1)] rfl (by (try simp only [List.map_toArray, List.map_cons, List.map_nil]); first | done | rfl | (simp only [List.length_drop, List.length_take]; rfl)) ?_; (with_reducible refine (spec_WriteNumber.calls (rdOf (0 : Nat) t259 x13_1) t263 _ ?side1 A16.out).mono ?_); (case side1 => exact Glob.below hG (by repeat (first | (with_reducible first | exact HB.out | apply below_alloc | apply pw_below_drewN | apply below_drew1 | refine below_set ?_ GE255.out) | exact HB.out))); rintro e w18 ⟨rfl, hb⟩; refine ⟨_, rfl, ?_⟩; have n0_ := Aside0.mk (Kd.R_below (by (with_reducible repeat (first | apply Kd.R_alloc | apply Kd.R_drewN | apply Kd.R_drew)); exact HO_11.out) hb); have n1_ := Aside0.mk (blk_below (g := gb255) (o := .cells #[.float .f64 a0_0, .float .f64 a0_1, .float .f64 a0_2, .float .f64 a0_3] 88 (0, 0)) (by (with_reducible repeat (first | refine blk_drewN ?_ _ | refine blk_drew ?_ | refine blk_alloc ?_ _)); exact BK255.out) hb); have n2_ := Aside0.mk (below_step (by repeat (first | (with_reducible first | exact HB.out | apply below_alloc | apply pw_below_drewN | apply below_drew1 | refine below_set ?_ GE255.out) | exact HB.out)) hb); clear HO_11; clear BK255; clear HB; have HO_11 := n0_; have BK255 := n1_; have HB := n2_; clear n0_ n1_ n2_; (try clear hb); (try clear hb2); (try clear hk); (try clear hi)))
                  go_roundg k1
                  case measure => have := HK1.out; omega
                  case rel => exact ⟨((x5_1 ++ (⟨#[32]⟩ : ByteArray)) ++ t263), (wrap64 (x13_1 + 1)), (by first | rfl | (simp; done) | (simp [*]; done)), (by first | rfl | (simp; done) | (simp [*]; done)), H', ⟨by have := HK1.out; omega⟩, ⟨by (with_reducible repeat (first | apply Kd.R_alloc | apply Kd.R_drewN | apply Kd.R_drew)); exact HO_11.out⟩, ⟨by (with_reducible repeat (first | refine blk_drewN ?_ _ | refine blk_drew ?_ | refine blk_alloc ?_ _)); exact BK255.out⟩, ⟨by repeat (first | (with_reducible first | exact HB.out | apply below_alloc | apply pw_below_drewN | apply below_drew1 | refine below_set ?_ GE255.out) | exact HB.out)⟩⟩
                · rw [if_neg c17] at H
                  exact absurd H (by simp)
              · rw [if_neg c15] at H
                exact absurd H (by simp)
            · rw [if_neg c14] at H
              have c14b0 : decide (0 < x13_1) = false := decide_eq_false c14
              clear c14
              replace H := Option.bind_eq_some_iff.mp H
              obtain ⟨t264, A190, H⟩ := H
              replace H : (if x5_1.size + t264.size ≤ 9223372036854775807 then (spec_writePlace.l0 k1 (x5_1 ++ t264) t259 (t259.length : Int) (wrap64 (x13_1 + 1))) else (none)) = some r := H
              have A19 := Aside0.mk A190
              clear A190
              by_cases c20 : x5_1.size + t264.size ≤ 9223372036854775807
              · rw [if_pos c20] at H
                have c20b0 := eq_true c20
                have c20b1 : decide (x5_1.size + t264.size ≤ 9223372036854775807) = true := decide_eq_true c20
                try have c20b2 : (9223372036854775807 < x5_1.size + t264.size) = False := eq_false (Nat.not_lt.2 c20)
                have H' := Aside0.mk H
                clear H
                have p262 : 0 ≤ (x13_1 : Int) := of_decide_eq_true (by first | (with_reducible assumption) | assumption)
                have q262 : x13_1 < (t259.length : Int) := of_decide_eq_true (by first | (with_reducible assumption) | assumption)
                obtain ⟨ad262, e262, hx262_0⟩ := Kd.at_float (Kd.R_reads' HO_11.out).2.2 x13_1 p262 q262
                cases e262
                replace p262 := eq_true p262
                replace q262 := eq_true q262
                go_wp2_with (first | ((with_reducible refine gate_callee (f := 110) rfl ?_); refine goesL_ (some 24) rfl rfl Tryz.func110 (by kernel_rfl) rfl #[.float .f64 (rdOf (0 : Nat) t259 x13_1)] rfl (by (try simp only [List.map_toArray, List.map_cons, List.map_nil]); first | done | rfl | (simp only [List.length_drop, List.length_take]; rfl)) ?_; (with_reducible refine (spec_WriteNumber.calls (rdOf (0 : Nat) t259 x13_1) t264 _ ?side1 A19.out).mono ?_); (case side1 => exact Glob.below hG (by repeat (first | (with_reducible first | exact HB.out | apply below_alloc | apply pw_below_drewN | apply below_drew1 | refine below_set ?_ GE255.out) | exact HB.out))); rintro e w21 ⟨rfl, hb⟩; refine ⟨_, rfl, ?_⟩; have n0_ := Aside0.mk (Kd.R_below (by (with_reducible repeat (first | apply Kd.R_alloc | apply Kd.R_drewN | apply Kd.R_drew)); exact HO_11.out) hb); have n1_ := Aside0.mk (blk_below (g := gb255) (o := .cells #[.float .f64 a0_0, .float .f64 a0_1, .float .f64 a0_2, .float .f64 a0_3] 88 (0, 0)) (by (with_reducible repeat (first | refine blk_drewN ?_ _ | refine blk_drew ?_ | refine blk_alloc ?_ _)); exact BK255.out) hb); have n2_ := Aside0.mk (below_step (by repeat (first | (with_reducible first | exact HB.out | apply below_alloc | apply pw_below_drewN | apply below_drew1 | refine below_set ?_ GE255.out) | exact HB.out)) hb); clear HO_11; clear BK255; clear HB; have HO_11 := n0_; have BK255 := n1_; have HB := n2_; clear n0_ n1_ n2_; (try clear hb); (try clear hb2); (try clear hk); (try clear hi)))
                go_roundg k1
                case measure => have := HK1.out; omega
                case rel => exact ⟨(x5_1 ++ t264), (wrap64 (x13_1 + 1)), (by first | rfl | (simp; done) | (simp [*]; done)), (by first | rfl | (simp; done) | (simp [*]; done)), H', ⟨by have := HK1.out; omega⟩, ⟨by (with_reducible repeat (first | apply Kd.R_alloc | apply Kd.R_drewN | apply Kd.R_drew)); exact HO_11.out⟩, ⟨by (with_reducible repeat (first | refine blk_drewN ?_ _ | refine blk_drew ?_ | refine blk_alloc ?_ _)); exact BK255.out⟩, ⟨by repeat (first | (with_reducible first | exact HB.out | apply below_alloc | apply pw_below_drewN | apply below_drew1 | refine below_set ?_ GE255.out) | exact HB.out)⟩⟩
              · rw [if_neg c20] at H
                exact absurd H (by simp)
          · rw [if_neg c13] at H
            exact absurd H (by simp)
        · rw [if_neg c12] at H
          exact absurd H (by simp)
      · rw [if_neg c11] at H
        have c11b0 : decide (x13_1 < (t259.length : Int)) = false := decide_eq_false c11
        clear c11
        obtain rfl := Option.some.inj H
        go_wp2
        go_ret
        exact ⟨by first | rfl | (simp [errW_none, errW_some] <;> rfl) | (simp [*, errW_none, errW_some] <;> rfl), by repeat (first | (with_reducible first | exact HB.out | apply below_alloc | apply pw_below_drewN | apply below_drew1 | refine below_set ?_ GE255.out) | exact HB.out)⟩

mutual
def spec_writeBody.l0 : Nat → List ByteArray → List (S88) → Int → Int → Int → Int → List Nat → List (S25) → Option (ByteArray)
  | 0, _, _, _, _, _, _, _, _ => none
  | k + 1, x3, x15, x16, x17, x266000, x266001, x266002, x266003 => if x17 < x16 then (if 0 ≤ x17 then (if x17 < (x15.length : Int) then ((spec_writePlace.f k ((rd_T88 x15 x17).f0) ((rd_T88 x15 x17).f1) ((rd_T88 x15 x17).f2) ((rd_T88 x15 x17).f3) x266001).bind fun t271 => (if x3.length < 8796093022208 then (spec_writeBody.l0 k (x3 ++ [t271]) x15 x16 (wrap64 (x17 + 1)) x266000 x266001 x266002 x266003) else (none))) else (none)) else (none)) else (spec_writeBody.l1 k x3 x266003 (x266003.length : Int) 0 x266000 x266001 x266002 x266003)
def spec_writeBody.l1 : Nat → List ByteArray → List (S25) → Int → Int → Int → Int → List Nat → List (S25) → Option (ByteArray)
  | 0, _, _, _, _, _, _, _, _ => none
  | k + 1, x3, x30, x31, x32, x266000, x266001, x266002, x266003 => if x32 < x31 then (if 0 ≤ x32 then (if x32 < (x30.length : Int) then (if x266000 = 0 then ((spec_WriteWKT.f k ((rd_T25 x30 x32).f0) ((rd_T25 x30 x32).f1) ((rd_T25 x30 x32).f2) ((rd_T25 x30 x32).f3)).bind fun t277 => (if x3.length < 8796093022208 then (spec_writeBody.l1 k (x3 ++ [t277]) x30 x31 (wrap64 (x32 + 1)) x266000 x266001 x266002 x266003) else (none))) else ((spec_writeBody.f k ((rd_T25 x30 x32).f0) ((rd_T25 x30 x32).f1) ((rd_T25 x30 x32).f2) ((rd_T25 x30 x32).f3)).bind fun t281 => (if x3.length < 8796093022208 then (spec_writeBody.l1 k (x3 ++ [t281]) x30 x31 (wrap64 (x32 + 1)) x266000 x266001 x266002 x266003) else (none)))) else (none)) else (none)) else (if (x3.length : Int) = 0 then (some (⟨#[69, 77, 80, 84, 89]⟩ : ByteArray)) else (spec_writeBody.l2 k (⟨#[40]⟩ : ByteArray) x3 (x3.length : Int) 0))
def spec_writeBody.l2 : Nat → ByteArray → List ByteArray → Int → Int → Option (ByteArray)
  | 0, _, _, _, _ => none
  | k + 1, x8, x53, x54, x55 => if x55 < x54 then (if 0 ≤ x55 then (if x55 < (x53.length : Int) then (if x55 > 0 then (if x8.size + 1 ≤ 9223372036854775807 then (if (x8 ++ (⟨#[44]⟩ : ByteArray)).size + (rdOf ByteArray.empty x53 x55).size ≤ 9223372036854775807 then (spec_writeBody.l2 k ((x8 ++ (⟨#[44]⟩ : ByteArray)) ++ (rdOf ByteArray.empty x53 x55)) x53 x54 (wrap64 (x55 + 1))) else (none)) else (none)) else (if x8.size + (rdOf ByteArray.empty x53 x55).size ≤ 9223372036854775807 then (spec_writeBody.l2 k (x8 ++ (rdOf ByteArray.empty x53 x55)) x53 x54 (wrap64 (x55 + 1))) else (none))) else (none)) else (none)) else (if x8.size + 1 ≤ 9223372036854775807 then (some (x8 ++ (⟨#[41]⟩ : ByteArray))) else (none))
def spec_writeBody.f : Nat → Int → Int → List Nat → List (S25) → Option (ByteArray)
  | 0, _, _, _, _ => none
  | k + 1, a0_0, a0_1, l0_2, l0_3 => (spec_Places.f k l0_2 a0_1).bind fun t266 => (spec_writeBody.l0 k ([] : List ByteArray) t266 (t266.length : Int) 0 a0_0 a0_1 l0_2 l0_3)
def spec_WriteWKT.f : Nat → Int → Int → List Nat → List (S25) → Option (ByteArray)
  | 0, _, _, _, _ => none
  | k + 1, a0_0, a0_1, l0_2, l0_3 => (spec_kindName.f a0_0).bind fun t287 => (if a0_1 = 0 then ((spec_writeBody.f k a0_0 a0_1 l0_2 l0_3).bind fun t288 => (if t288.toList = ([69, 77, 80, 84, 89] : List UInt8) then (if t287.size + 1 ≤ 9223372036854775807 then (if (t287 ++ (⟨#[32]⟩ : ByteArray)).size + t288.size ≤ 9223372036854775807 then (some ((t287 ++ (⟨#[32]⟩ : ByteArray)) ++ t288)) else (none)) else (none)) else (if t287.size + t288.size ≤ 9223372036854775807 then (some (t287 ++ t288)) else (none)))) else ((spec_dimName.f a0_1).bind fun t289 => (if 1 + t289.size ≤ 9223372036854775807 then (if t287.size + ((⟨#[32]⟩ : ByteArray) ++ t289).size ≤ 9223372036854775807 then ((spec_writeBody.f k a0_0 a0_1 l0_2 l0_3).bind fun t290 => (if (t287 ++ ((⟨#[32]⟩ : ByteArray) ++ t289)).size + 1 ≤ 9223372036854775807 then (if ((t287 ++ ((⟨#[32]⟩ : ByteArray) ++ t289)) ++ (⟨#[32]⟩ : ByteArray)).size + t290.size ≤ 9223372036854775807 then (some (((t287 ++ ((⟨#[32]⟩ : ByteArray) ++ t289)) ++ (⟨#[32]⟩ : ByteArray)) ++ t290)) else (none)) else (none))) else (none)) else (none))))
end
abbrev spec_writeBody.Con (k : Nat) : Prop := ∀ (a0_0 : Int) (a0_1 : Int) (A0_2 : Option Addr) (c0_2 : Nat) (l0_2 : List Nat) (A0_3 : Option Addr) (c0_3 : Nat) (l0_3 : List (S25)) (r : ByteArray) (w : World) (hr0_2 : Kd.C Kd.float w A0_2 l0_2.length l0_2) (hc0_2 : l0_2.length ≤ c0_2) (hr0_3 : Kd.C k25 w A0_3 l0_3.length l0_3) (hc0_3 : l0_3.length ≤ c0_3) (hG : Glob w) (h : spec_writeBody.f k a0_0 a0_1 l0_2 l0_3 = some r),
    Calls Tryz.prog 32 #[.agg #[.int .i64 a0_0, .int .i64 a0_1, .slice A0_2 l0_2.length c0_2, .slice A0_3 l0_3.length c0_3]] w fun e w' => e = .returned (.string r) ∧ Below w.heap.size w w'
abbrev spec_WriteWKT.Con (k : Nat) : Prop := ∀ (a0_0 : Int) (a0_1 : Int) (A0_2 : Option Addr) (c0_2 : Nat) (l0_2 : List Nat) (A0_3 : Option Addr) (c0_3 : Nat) (l0_3 : List (S25)) (r : ByteArray) (w : World) (hr0_2 : Kd.C Kd.float w A0_2 l0_2.length l0_2) (hc0_2 : l0_2.length ≤ c0_2) (hr0_3 : Kd.C k25 w A0_3 l0_3.length l0_3) (hc0_3 : l0_3.length ≤ c0_3) (hG : Glob w) (h : spec_WriteWKT.f k a0_0 a0_1 l0_2 l0_3 = some r),
    Calls Tryz.prog 12 #[.agg #[.int .i64 a0_0, .int .i64 a0_1, .slice A0_2 l0_2.length c0_2, .slice A0_3 l0_3.length c0_3]] w fun e w' => e = .returned (.string r) ∧ Below w.heap.size w w'
/-! ### spec_writeBody: function 32 -/

set_option maxHeartbeats 8000000 in
set_option maxRecDepth 100000 in
theorem spec_writeBody.step (k : Nat) (ih : ∀ m, m < k → spec_writeBody.Con m) (ih2 : ∀ m, m < k → spec_WriteWKT.Con m) : spec_writeBody.Con k := by
  intro a0_0 a0_1 A0_2 c0_2 l0_2 A0_3 c0_3 l0_3 r w hr0_2 hc0_2 hr0_3 hc0_3 hG h
  cases k with
  | zero => exact absurd h (by simp [spec_writeBody.f])
  | succ k =>
  simp only [spec_writeBody.f] at h
  have hu25 := Tryz.underlying25
  have hu88 := Tryz.underlying88
  have HR0_2 := Aside0.mk hr0_2
  have HC0_2 := Aside0.mk hc0_2
  clear hr0_2 hc0_2
  have HR0_3 := Aside0.mk hr0_3
  have HC0_3 := Aside0.mk hc0_3
  clear hr0_3 hc0_3
  have HB := Aside0.mk (Below.refl w.heap.size w)
  have H : ((spec_Places.f k l0_2 a0_1).bind fun t266 => (spec_writeBody.l0 k ([] : List ByteArray) t266 (t266.length : Int) 0 a0_0 a0_1 l0_2 l0_3)) = some r := h
  clear h
  replace H := Option.bind_eq_some_iff.mp H
  obtain ⟨t266, A20, H⟩ := H
  replace H : (spec_writeBody.l0 k ([] : List ByteArray) t266 (t266.length : Int) 0 a0_0 a0_1 l0_2 l0_3) = some r := H
  have A2 := Aside0.mk A20
  clear A20
  have H' := Aside0.mk H
  clear H
  go_enter Tryz.func32, Tryz.ntmps32
  go_wp2_with (first | ((with_reducible refine gate_dst (N := 1) rfl ?_); refine box_event ?hg (N := 1) ?hd (cs := #[.int .i64 a0_0, .int .i64 a0_1, .slice A0_2 l0_2.length c0_2, .slice A0_3 l0_3.length c0_3]) (t := 25) ?hr ?_; (case hd => rfl); (case hg => rfl); (case hr => first | (go_simp; done) | (go_simp; rfl)); intro gb265 hg w3 hbox hb; have n0_ := Aside0.mk (below_step (by repeat (first | (with_reducible first | exact HB.out | apply below_alloc | apply pw_below_drewN | apply below_drew1) | exact HB.out)) hb); have n1_ := Aside0.mk (hbox); have n2_ := Aside0.mk ((by rw [hg]; exact (below_size (by repeat (first | (with_reducible first | exact HB.out | apply below_alloc | apply pw_below_drewN | apply below_drew1) | exact HB.out))) : w.heap.size ≤ gb265)); have n3_ := Aside0.mk ((by rw [hg]; exact (below_size (by repeat (first | (with_reducible first | exact HB.out | apply below_alloc | apply pw_below_drewN | apply below_drew1) | exact HB.out))) : w.heap.size ≤ gb265)); clear HB; have HB := n0_; have BK265 := n1_; have GW265 := n2_; have GE265 := n3_; clear n0_ n1_ n2_ n3_; clear hb hbox hg; have hcz4_0 : w3.cell? ⟨gb265, 0, none⟩ = some (.int .i64 a0_0) := (blk_cell BK265.out 0).trans rfl; have hcz4_1 : w3.cell? ⟨gb265, 1, none⟩ = some (.int .i64 a0_1) := (blk_cell BK265.out 1).trans rfl; have hcz4_2 : w3.cell? ⟨gb265, 2, none⟩ = some (.slice A0_2 l0_2.length c0_2) := (blk_cell BK265.out 2).trans rfl; have hcz4_3 : w3.cell? ⟨gb265, 3, none⟩ = some (.slice A0_3 l0_3.length c0_3) := (blk_cell BK265.out 3).trans rfl; have hfz4_0 := blk_frozen BK265.out 0; have hfz4_1 := blk_frozen BK265.out 1; have hfz4_2 := blk_frozen BK265.out 2; have hfz4_3 := blk_frozen BK265.out 3) | ((with_reducible refine gate_callee (f := 58) rfl ?_); refine goesL_ (some 15) rfl rfl Tryz.func58 (by kernel_rfl) rfl #[.slice A0_2 l0_2.length c0_2, .int .i64 a0_1] rfl (by (try simp only [List.map_toArray, List.map_cons, List.map_nil]); first | done | rfl | (simp only [List.length_drop, List.length_take]; rfl)) ?_; (with_reducible refine (spec_Places.calls k _ _ l0_2 a0_1 t266 _ ?side1 ?side2 A2.out).mono ?_); (case side1 => repeat (first | exact (Kd.C_below HR0_2.out HB.out) | (with_reducible refine Kd.C_alloc ?_ _) | (with_reducible refine Kd.C_drewN ?_ _) | (with_reducible refine Kd.C_drew ?_))); (case side2 => exact HC0_2.out); rintro e w5 ⟨v267, rfl, ho0, hb⟩; refine ⟨_, rfl, ?_⟩; have n0_ := Aside0.mk (Kd.R_lower ho0 (below_size (by repeat (first | (with_reducible first | exact HB.out | apply below_alloc | apply pw_below_drewN | apply below_drew1 | refine below_set ?_ GE265.out) | exact HB.out)))); have n1_ := Aside0.mk (blk_below (g := gb265) (o := .cells #[.int .i64 a0_0, .int .i64 a0_1, .slice A0_2 l0_2.length c0_2, .slice A0_3 l0_3.length c0_3] 25 (0, 0)) (by (with_reducible repeat (first | refine blk_drewN ?_ _ | refine blk_drew ?_ | refine blk_alloc ?_ _)); exact BK265.out) hb); have n2_ := Aside0.mk (below_step (by repeat (first | (with_reducible first | exact HB.out | apply below_alloc | apply pw_below_drewN | apply below_drew1 | refine below_set ?_ GE265.out) | exact HB.out)) hb); clear BK265; clear HB; have HO268 := n0_; have BK265 := n1_; have HB := n2_; clear n0_ n1_ n2_; (try clear hb); (try clear hb2); (try clear hk); (try clear hi); (try clear ho0); obtain ⟨Ao6, co6, eo6⟩ := Kd.R_slice HO268.out; subst eo6))
  go_loopg [3, 17] k (fun kq v3 v17 w' => ∃ (x3_1 : List ByteArray) (x17_1 : Int), v17 = .int .i64 x17_1 ∧ Aside0 (spec_writeBody.l0 kq x3_1 t266 (t266.length : Int) x17_1 a0_0 a0_1 l0_2 l0_3 = some r) ∧ Aside0 (kq ≤ k) ∧ Aside0 (Kd.R Kd.string 9 w' w.heap.size (fun _ => True) v3 x3_1) ∧ Aside0 (Kd.R k88 88 w' w.heap.size (fun _ => True) (.slice Ao6 t266.length co6) t266) ∧ Aside0 (w'.heap[gb265]? = some (.cells #[.int .i64 a0_0, .int .i64 a0_1, (.slice A0_2 l0_2.length c0_2), (.slice A0_3 l0_3.length c0_3)] 25 (0, 0))) ∧ Aside0 (Below w.heap.size w w'))
  case atStart => exact ⟨(([] : List ByteArray)), (0), (by first | rfl | (simp; done) | (simp [*]; done)), H', ⟨Nat.le_refl _⟩, ⟨by first | exact Kd.R_nil _ _ _ _ _ | exact Kd.N_nil _ _ _ _ _ | exact Kd.V_nil _ _ _ _ _ | exact Kd.Q_nil _ _ _ _ _ | exact Kd.S_nil _ _ _ _ _⟩, ⟨by (with_reducible repeat (first | apply Kd.R_alloc | apply Kd.R_drewN | apply Kd.R_drew)); exact HO268.out⟩, ⟨by (with_reducible repeat (first | refine blk_drewN ?_ _ | refine blk_drew ?_ | refine blk_alloc ?_ _)); exact BK265.out⟩, ⟨by repeat (first | (with_reducible first | exact HB.out | apply below_alloc | apply pw_below_drewN | apply below_drew1 | refine below_set ?_ GE265.out) | exact HB.out)⟩⟩
  case round =>
    clear H'
    try clear p2
    try clear c3
    try clear c5
    try clear hcz4_0
    try clear hcz4_1
    try clear hcz4_2
    try clear hcz4_3
    try clear hfz4_0
    try clear hfz4_1
    try clear hfz4_2
    try clear hfz4_3
    obtain ⟨x3_1, x17_1, rfl, HA, HK1, HO_3, HO_15, BK265, HB⟩ := hrel
    cases gk with
    | zero => exact absurd HA.out (by simp [spec_writeBody.l0])
    | succ k1 =>
      have H := HA.out
      clear HA
      simp only [spec_writeBody.l0] at H
      by_cases c7 : x17_1 < (t266.length : Int)
      · rw [if_pos c7] at H
        have c7b0 : decide (x17_1 < (t266.length : Int)) = true := decide_eq_true c7
        clear c7
        by_cases c8 : 0 ≤ x17_1
        · rw [if_pos c8] at H
          have c8b0 : decide (0 ≤ x17_1) = true := decide_eq_true c8
          clear c8
          by_cases c9 : x17_1 < (t266.length : Int)
          · rw [if_pos c9] at H
            have c9b0 : decide (x17_1 < (t266.length : Int)) = true := decide_eq_true c9
            clear c9
            replace H := Option.bind_eq_some_iff.mp H
            obtain ⟨t271, A100, H⟩ := H
            replace H : (if x3_1.length < 8796093022208 then (spec_writeBody.l0 k1 (x3_1 ++ [t271]) t266 (t266.length : Int) (wrap64 (x17_1 + 1)) a0_0 a0_1 l0_2 l0_3) else (none)) = some r := H
            have A10 := Aside0.mk A100
            clear A100
            by_cases c11 : x3_1.length < 8796093022208
            · rw [if_pos c11] at H
              have LMc11 := Aside0.mk c11
              clear c11
              obtain ⟨y272, hy272⟩ : ∃ y_ : List ByteArray, y_ = (x3_1 ++ [t271]) := ⟨_, rfl⟩
              replace H : (spec_writeBody.l0 k1 y272 t266 (t266.length : Int) (wrap64 (x17_1 + 1)) a0_0 a0_1 l0_2 l0_3) = some r := by first | (rw [hy272]; with_reducible exact H) | (have H2_ := (Option.bind_some _ _).symm.trans H; rw [hy272]; with_reducible exact H2_) | (have H2_ := (Option.bind_some _ _).symm.trans H; with_reducible exact H2_) | with_reducible exact H | (rw [hy272]; exact H) | exact H
              have Ny272 := Aside0.mk hy272
              clear hy272
              have H' := Aside0.mk H
              clear H
              have p269 : 0 ≤ (x17_1 : Int) := of_decide_eq_true (by first | (with_reducible assumption) | assumption)
              have q269 : x17_1 < (t266.length : Int) := of_decide_eq_true (by first | (with_reducible assumption) | assumption)
              obtain ⟨ad269, e269, hx269_0, hx269_1, hx269_2, hx269_3⟩ := at_T88 (Kd.R_reads' HO_15.out).2.2 x17_1 p269 q269
              cases e269
              replace p269 := eq_true p269
              replace q269 := eq_true q269
              go_wp2_with (first | ((with_reducible refine gate_dst (N := 5) rfl ?_); refine box_event ?hg (N := 5) ?hd (cs := #[.float .f64 0, .float .f64 0, .float .f64 0, .float .f64 0]) (t := 88) ?hr ?_; (case hd => rfl); (case hg => rfl); (case hr => first | (go_simp; done) | (go_simp; rfl)); intro gb270 hg w12 hbox hb; have n0_ := Aside0.mk (Kd.R_below (by (with_reducible repeat (first | apply Kd.R_alloc | apply Kd.R_drewN | apply Kd.R_drew)); exact HO_3.out) hb); have n1_ := Aside0.mk (Kd.R_below (Kd.R_elderB (by (with_reducible repeat (first | apply Kd.R_alloc | apply Kd.R_drewN | apply Kd.R_drew)); exact HO_15.out) gb270 (Nat.le_of_eq hg.symm)) hb); have n2_ := Aside0.mk (blk_below (g := gb265) (o := .cells #[.int .i64 a0_0, .int .i64 a0_1, .slice A0_2 l0_2.length c0_2, .slice A0_3 l0_3.length c0_3] 25 (0, 0)) (by (with_reducible repeat (first | refine blk_drewN ?_ _ | refine blk_drew ?_ | refine blk_alloc ?_ _)); exact BK265.out) hb); have n3_ := Aside0.mk (below_step (by repeat (first | (with_reducible first | exact HB.out | apply below_alloc | apply pw_below_drewN | apply below_drew1 | refine below_set ?_ GE265.out) | exact HB.out)) hb); have n4_ := Aside0.mk (hbox); have n5_ := Aside0.mk ((by rw [hg]; exact (below_size (by repeat (first | (with_reducible first | exact HB.out | apply below_alloc | apply pw_below_drewN | apply below_drew1 | refine below_set ?_ GE265.out) | exact HB.out))) : w.heap.size ≤ gb270)); have n6_ := Aside0.mk ((by rw [hg]; exact (below_size (by repeat (first | (with_reducible first | exact HB.out | apply below_alloc | apply pw_below_drewN | apply below_drew1 | refine below_set ?_ GE265.out) | exact HB.out))) : w.heap.size ≤ gb270)); have n7_ := Aside0.mk ((by rw [hg]; exact Nat.ne_of_lt (blk_lt (g := gb265) (o := .cells #[.int .i64 a0_0, .int .i64 a0_1, .slice A0_2 l0_2.length c0_2, .slice A0_3 l0_3.length c0_3] 25 (0, 0)) (by (with_reducible repeat (first | refine blk_drewN ?_ _ | refine blk_drew ?_ | refine blk_alloc ?_ _)); exact BK265.out)) : gb265 ≠ gb270)); have n8_ := Aside0.mk ((by rw [hg]; exact Nat.ne_of_gt (blk_lt (g := gb265) (o := .cells #[.int .i64 a0_0, .int .i64 a0_1, .slice A0_2 l0_2.length c0_2, .slice A0_3 l0_3.length c0_3] 25 (0, 0)) (by (with_reducible repeat (first | refine blk_drewN ?_ _ | refine blk_drew ?_ | refine blk_alloc ?_ _)); exact BK265.out)) : gb270 ≠ gb265)); clear HO_3; clear HO_15; clear BK265; clear HB; have HO_3 := n0_; have HO_15 := n1_; have BK265 := n2_; have HB := n3_; have BK270 := n4_; have GW270 := n5_; have GE270 := n6_; have NB265_270 := n7_; have NB270_265 := n8_; clear n0_ n1_ n2_ n3_ n4_ n5_ n6_ n7_ n8_; clear hb hbox hg; have hnb13 := NB270_265.out; have hnc13 := NB265_270.out; have hcz14_0 : w12.cell? ⟨gb270, 0, none⟩ = some (.float .f64 0) := (blk_cell BK270.out 0).trans rfl; have hcz14_1 : w12.cell? ⟨gb270, 1, none⟩ = some (.float .f64 0) := (blk_cell BK270.out 1).trans rfl; have hcz14_2 : w12.cell? ⟨gb270, 2, none⟩ = some (.float .f64 0) := (blk_cell BK270.out 2).trans rfl; have hcz14_3 : w12.cell? ⟨gb270, 3, none⟩ = some (.float .f64 0) := (blk_cell BK270.out 3).trans rfl; have hfz14_0 := blk_frozen BK270.out 0; have hfz14_1 := blk_frozen BK270.out 1; have hfz14_2 := blk_frozen BK270.out 2; have hfz14_3 := blk_frozen BK270.out 3; have hcz15_0 : w12.cell? ⟨gb265, 0, none⟩ = some (.int .i64 a0_0) := (blk_cell BK265.out 0).trans rfl; have hcz15_1 : w12.cell? ⟨gb265, 1, none⟩ = some (.int .i64 a0_1) := (blk_cell BK265.out 1).trans rfl; have hcz15_2 : w12.cell? ⟨gb265, 2, none⟩ = some (.slice A0_2 l0_2.length c0_2) := (blk_cell BK265.out 2).trans rfl; have hcz15_3 : w12.cell? ⟨gb265, 3, none⟩ = some (.slice A0_3 l0_3.length c0_3) := (blk_cell BK265.out 3).trans rfl; have hfz15_0 := blk_frozen BK265.out 0; have hfz15_1 := blk_frozen BK265.out 1; have hfz15_2 := blk_frozen BK265.out 2; have hfz15_3 := blk_frozen BK265.out 3) | ((with_reducible refine gate_callee (f := 59) rfl ?_); refine goesL_ (some 25) rfl rfl Tryz.func59 (by kernel_rfl) rfl #[.agg #[.float .f64 ((rd_T88 t266 x17_1).f0), .float .f64 ((rd_T88 t266 x17_1).f1), .float .f64 ((rd_T88 t266 x17_1).f2), .float .f64 ((rd_T88 t266 x17_1).f3)], .int .i64 a0_1] rfl (by (try simp only [List.map_toArray, List.map_cons, List.map_nil]); first | done | rfl | (simp only [List.length_drop, List.length_take]; rfl)) ?_; (with_reducible refine (spec_writePlace.calls k1 ((rd_T88 t266 x17_1).f0) ((rd_T88 t266 x17_1).f1) ((rd_T88 t266 x17_1).f2) ((rd_T88 t266 x17_1).f3) a0_1 t271 _ ?side1 A10.out).mono ?_); (case side1 => exact Glob.below hG (by repeat (first | (with_reducible first | exact HB.out | apply below_alloc | apply pw_below_drewN | apply below_drew1 | refine below_set ?_ GE265.out | refine below_set ?_ GE270.out) | exact HB.out))); rintro e w16 ⟨rfl, hb⟩; refine ⟨_, rfl, ?_⟩; have n0_ := Aside0.mk (Kd.R_below (by (with_reducible repeat (first | apply Kd.R_alloc | apply Kd.R_drewN | apply Kd.R_drew)); exact (Kd.R_mono (Kd.R_far (p := ⟨gb270, 3, none⟩) (Kd.R_far (p := ⟨gb270, 2, none⟩) (Kd.R_far (p := ⟨gb270, 1, none⟩) (Kd.R_far (p := ⟨gb270, 0, none⟩) (Kd.R_types HO_3.out BK270.out (by decide)) (fun _ hk => hk.2) (.float .f64 ((rd_T88 t266 x17_1).f0))) (fun _ hk => hk.2) (.float .f64 ((rd_T88 t266 x17_1).f1))) (fun _ hk => hk.2) (.float .f64 ((rd_T88 t266 x17_1).f2))) (fun _ hk => hk.2) (.float .f64 ((rd_T88 t266 x17_1).f3))) (fun _ h_ => h_.1))) hb); have n1_ := Aside0.mk (Kd.R_below (by (with_reducible repeat (first | apply Kd.R_alloc | apply Kd.R_drewN | apply Kd.R_drew)); exact (Kd.R_mono (Kd.R_far (p := ⟨gb270, 3, none⟩) (Kd.R_far (p := ⟨gb270, 2, none⟩) (Kd.R_far (p := ⟨gb270, 1, none⟩) (Kd.R_far (p := ⟨gb270, 0, none⟩) (Kd.R_mono HO_15.out (fun k_ hk => (⟨hk, hk.2⟩ : _ ∧ k_ ≠ gb270))) (fun _ hk => hk.2) (.float .f64 ((rd_T88 t266 x17_1).f0))) (fun _ hk => hk.2) (.float .f64 ((rd_T88 t266 x17_1).f1))) (fun _ hk => hk.2) (.float .f64 ((rd_T88 t266 x17_1).f2))) (fun _ hk => hk.2) (.float .f64 ((rd_T88 t266 x17_1).f3))) (fun _ h_ => h_.1))) hb); have n2_ := Aside0.mk (blk_below (g := gb265) (o := .cells #[.int .i64 a0_0, .int .i64 a0_1, .slice A0_2 l0_2.length c0_2, .slice A0_3 l0_3.length c0_3] 25 (0, 0)) (by (with_reducible repeat (first | refine blk_drewN ?_ _ | refine blk_drew ?_ | refine blk_alloc ?_ _)); refine blk_far ?_ NB265_270.out _; (with_reducible repeat (first | refine blk_drewN ?_ _ | refine blk_drew ?_ | refine blk_alloc ?_ _)); refine blk_far ?_ NB265_270.out _; (with_reducible repeat (first | refine blk_drewN ?_ _ | refine blk_drew ?_ | refine blk_alloc ?_ _)); refine blk_far ?_ NB265_270.out _; (with_reducible repeat (first | refine blk_drewN ?_ _ | refine blk_drew ?_ | refine blk_alloc ?_ _)); refine blk_far ?_ NB265_270.out _; (with_reducible repeat (first | refine blk_drewN ?_ _ | refine blk_drew ?_ | refine blk_alloc ?_ _)); exact BK265.out) hb); have n3_ := Aside0.mk (blk_below (g := gb270) (o := .cells #[.float .f64 ((rd_T88 t266 x17_1).f0), .float .f64 ((rd_T88 t266 x17_1).f1), .float .f64 ((rd_T88 t266 x17_1).f2), .float .f64 ((rd_T88 t266 x17_1).f3)] 88 (0, 0)) (by (with_reducible repeat (first | refine blk_drewN ?_ _ | refine blk_drew ?_ | refine blk_alloc ?_ _)); refine blk_put (cs := #[.float .f64 ((rd_T88 t266 x17_1).f0), .float .f64 ((rd_T88 t266 x17_1).f1), .float .f64 ((rd_T88 t266 x17_1).f2), .float .f64 0]) ?_ 3 _ rfl; (with_reducible repeat (first | refine blk_drewN ?_ _ | refine blk_drew ?_ | refine blk_alloc ?_ _)); refine blk_put (cs := #[.float .f64 ((rd_T88 t266 x17_1).f0), .float .f64 ((rd_T88 t266 x17_1).f1), .float .f64 0, .float .f64 0]) ?_ 2 _ rfl; (with_reducible repeat (first | refine blk_drewN ?_ _ | refine blk_drew ?_ | refine blk_alloc ?_ _)); refine blk_put (cs := #[.float .f64 ((rd_T88 t266 x17_1).f0), .float .f64 0, .float .f64 0, .float .f64 0]) ?_ 1 _ rfl; (with_reducible repeat (first | refine blk_drewN ?_ _ | refine blk_drew ?_ | refine blk_alloc ?_ _)); refine blk_put (cs := #[.float .f64 0, .float .f64 0, .float .f64 0, .float .f64 0]) ?_ 0 _ rfl; (with_reducible repeat (first | refine blk_drewN ?_ _ | refine blk_drew ?_ | refine blk_alloc ?_ _)); exact BK270.out) hb); have n4_ := Aside0.mk (below_step (by repeat (first | (with_reducible first | exact HB.out | apply below_alloc | apply pw_below_drewN | apply below_drew1 | refine below_set ?_ GE265.out | refine below_set ?_ GE270.out) | exact HB.out)) hb); clear HO_3; clear HO_15; clear BK265; clear BK270; clear HB; have HO_3 := n0_; have HO_15 := n1_; have BK265 := n2_; have BK270 := n3_; have HB := n4_; clear n0_ n1_ n2_ n3_ n4_; (try clear hb); (try clear hb2); (try clear hk); (try clear hi)) | ((with_reducible refine gate_builtin (b := .append) (xs := #[.tmp 21, .tmp 26]) rfl ?_); at_builtin; refine Kd.R_append Kd.string (w0 := w) w.heap.size rfl (.tmp 21) (.tmp 26) 36 9 (.string ⟨#[]⟩) 16 rfl Tryz.underlying36 info9 rfl (by decide) (by omega) u3 x3_1 t271 [.string t271] (fun _ => True) (fun _ => False) rfl rfl ?aP (fun _ hk => hk.elim) ?aF ?aO ?aB ?aS ?aL ?_; (case aP => exact rfl); (case aB => exact (by repeat (first | (with_reducible first | exact HB.out | apply below_alloc | apply pw_below_drewN | apply below_drew1 | refine below_set ?_ GE265.out | refine below_set ?_ GE270.out) | exact HB.out))); (case aF => exact (fun _ _ => trivial)); (case aO => exact (by (with_reducible repeat (first | apply Kd.R_alloc | apply Kd.R_drewN | apply Kd.R_drew)); exact HO_3.out)); (case aS => exact (below_size (by repeat (first | (with_reducible first | exact HB.out | apply below_alloc | apply pw_below_drewN | apply below_drew1 | refine below_set ?_ GE265.out | refine below_set ?_ GE270.out) | exact HB.out)))); (case aL => have := LMc11.out; omega); intro v273 w17 ho hb hg hat; rw [← Ny272.out] at ho; have n0_ := Aside0.mk (Kd.R_over' (by (with_reducible repeat (first | apply Kd.R_alloc | apply Kd.R_drewN | apply Kd.R_drew)); exact HO_15.out) (Kd.R_typed (by (with_reducible repeat (first | apply Kd.R_alloc | apply Kd.R_drewN | apply Kd.R_drew)); exact HO_3.out)) (by decide) hg); have n1_ := Aside0.mk (blk_grown (g := gb265) (o := .cells #[.int .i64 a0_0, .int .i64 a0_1, .slice A0_2 l0_2.length c0_2, .slice A0_3 l0_3.length c0_3] 25 (0, 0)) (by (with_reducible repeat (first | refine blk_drewN ?_ _ | refine blk_drew ?_ | refine blk_alloc ?_ _)); exact BK265.out) hg (Kd.R_ne HO_3.out BK265.out (by decide))); have n2_ := Aside0.mk (blk_grown (g := gb270) (o := .cells #[.float .f64 ((rd_T88 t266 x17_1).f0), .float .f64 ((rd_T88 t266 x17_1).f1), .float .f64 ((rd_T88 t266 x17_1).f2), .float .f64 ((rd_T88 t266 x17_1).f3)] 88 (0, 0)) (by (with_reducible repeat (first | refine blk_drewN ?_ _ | refine blk_drew ?_ | refine blk_alloc ?_ _)); exact BK270.out) hg (Kd.R_ne HO_3.out BK270.out (by decide))); have n3_ := Aside0.mk (hb); have n4_ := Aside0.mk (ho); clear HO_15; clear BK265; clear BK270; clear HB; clear HO_3; have HO_15 := n0_; have BK265 := n1_; have BK270 := n2_; have HB := n3_; have HO274 := n4_; clear n0_ n1_ n2_ n3_ n4_; clear ho hb hg hat))
              go_roundg k1
              case measure => have := HK1.out; omega
              case rel => exact ⟨(y272), (wrap64 (x17_1 + 1)), (by first | rfl | (simp; done) | (simp [*]; done)), H', ⟨by have := HK1.out; omega⟩, ⟨by (with_reducible repeat (first | apply Kd.R_alloc | apply Kd.R_drewN | apply Kd.R_drew)); exact HO274.out⟩, ⟨by (with_reducible repeat (first | apply Kd.R_alloc | apply Kd.R_drewN | apply Kd.R_drew)); exact Kd.R_mono HO_15.out (fun _ hk => trivial)⟩, ⟨by (with_reducible repeat (first | refine blk_drewN ?_ _ | refine blk_drew ?_ | refine blk_alloc ?_ _)); exact BK265.out⟩, ⟨by repeat (first | (with_reducible first | exact HB.out | apply below_alloc | apply pw_below_drewN | apply below_drew1 | refine below_set ?_ GE265.out | refine below_set ?_ GE270.out) | exact HB.out)⟩⟩
            · rw [if_neg c11] at H
              exact absurd H (by simp)
          · rw [if_neg c9] at H
            exact absurd H (by simp)
        · rw [if_neg c8] at H
          exact absurd H (by simp)
      · rw [if_neg c7] at H
        have c7b0 : decide (x17_1 < (t266.length : Int)) = false := decide_eq_false c7
        clear c7
        have H' := Aside0.mk H
        clear H
        have hcz18_0 : wr.cell? ⟨gb265, 0, none⟩ = some (.int .i64 a0_0) := (blk_cell BK265.out 0).trans rfl
        have hcz18_1 : wr.cell? ⟨gb265, 1, none⟩ = some (.int .i64 a0_1) := (blk_cell BK265.out 1).trans rfl
        have hcz18_2 : wr.cell? ⟨gb265, 2, none⟩ = some (.slice A0_2 l0_2.length c0_2) := (blk_cell BK265.out 2).trans rfl
        have hcz18_3 : wr.cell? ⟨gb265, 3, none⟩ = some (.slice A0_3 l0_3.length c0_3) := (blk_cell BK265.out 3).trans rfl
        have hfz18_0 := blk_frozen BK265.out 0
        have hfz18_1 := blk_frozen BK265.out 1
        have hfz18_2 := blk_frozen BK265.out 2
        have hfz18_3 := blk_frozen BK265.out 3
        go_wp2
        go_loopg [3, 32] k1 (fun kq v3 v32 w' => ∃ (x3_2 : List ByteArray) (x32_2 : Int), v32 = .int .i64 x32_2 ∧ Aside0 (spec_writeBody.l1 kq x3_2 l0_3 (l0_3.length : Int) x32_2 a0_0 a0_1 l0_2 l0_3 = some r) ∧ Aside0 (kq ≤ k1) ∧ Aside0 (Kd.R Kd.string 9 w' w.heap.size (fun _ => True) v3 x3_2) ∧ Aside0 (w'.heap[gb265]? = some (.cells #[.int .i64 a0_0, .int .i64 a0_1, (.slice A0_2 l0_2.length c0_2), (.slice A0_3 l0_3.length c0_3)] 25 (0, 0))) ∧ Aside0 (Below w.heap.size w w'))
        case atStart => exact ⟨(x3_1), (0), (by first | rfl | (simp; done) | (simp [*]; done)), H', ⟨Nat.le_refl _⟩, ⟨by (with_reducible repeat (first | apply Kd.R_alloc | apply Kd.R_drewN | apply Kd.R_drew)); exact HO_3.out⟩, ⟨by (with_reducible repeat (first | refine blk_drewN ?_ _ | refine blk_drew ?_ | refine blk_alloc ?_ _)); exact BK265.out⟩, ⟨by repeat (first | (with_reducible first | exact HB.out | apply below_alloc | apply pw_below_drewN | apply below_drew1 | refine below_set ?_ GE265.out) | exact HB.out)⟩⟩
        case round =>
          clear H'
          try clear c1
          try clear p2
          try clear q2
          try clear hx2
          try clear c3
          try clear c5
          try clear p6
          try clear c7
          try clear c7b0
          try clear c8
          try clear c8b0
          try clear c9
          try clear c9b0
          try clear c11
          try clear c13
          try clear hcz14_0
          try clear hcz14_1
          try clear hcz14_2
          try clear hcz14_3
          try clear hcz15_0
          try clear hcz15_1
          try clear hcz15_2
          try clear hcz15_3
          try clear hcz18_0
          try clear hcz18_1
          try clear hcz18_2
          try clear hcz18_3
          try clear hcz4_0
          try clear hcz4_1
          try clear hcz4_2
          try clear hcz4_3
          try clear hfz14_0
          try clear hfz14_1
          try clear hfz14_2
          try clear hfz14_3
          try clear hfz15_0
          try clear hfz15_1
          try clear hfz15_2
          try clear hfz15_3
          try clear hfz18_0
          try clear hfz18_1
          try clear hfz18_2
          try clear hfz18_3
          try clear hfz4_0
          try clear hfz4_1
          try clear hfz4_2
          try clear hfz4_3
          try clear hx269_0
          try clear hx269_1
          try clear hx269_2
          try clear hx269_3
          try clear p2
          try clear p269
          try clear q269
          obtain ⟨x3_2, x32_2, rfl, HA, HK2, HO_3, BK265, HB⟩ := hrel
          cases gk with
          | zero => exact absurd HA.out (by simp [spec_writeBody.l1])
          | succ k2 =>
            have H := HA.out
            clear HA
            simp only [spec_writeBody.l1] at H
            by_cases c19 : x32_2 < (l0_3.length : Int)
            · rw [if_pos c19] at H
              have c19b0 : decide (x32_2 < (l0_3.length : Int)) = true := decide_eq_true c19
              clear c19
              by_cases c20 : 0 ≤ x32_2
              · rw [if_pos c20] at H
                have c20b0 : decide (0 ≤ x32_2) = true := decide_eq_true c20
                clear c20
                by_cases c21 : x32_2 < (l0_3.length : Int)
                · rw [if_pos c21] at H
                  have c21b0 : decide (x32_2 < (l0_3.length : Int)) = true := decide_eq_true c21
                  clear c21
                  by_cases c22 : a0_0 = 0
                  · rw [if_pos c22] at H
                    have c22b0 : (a0_0 == 0) = true := beq_iff_eq.mpr c22
                    have c22b1 : (a0_0 != 0) = false := bne_eq_false_iff_eq.mpr c22
                    clear c22
                    replace H := Option.bind_eq_some_iff.mp H
                    obtain ⟨t277, A230, H⟩ := H
                    replace H : (if x3_2.length < 8796093022208 then (spec_writeBody.l1 k2 (x3_2 ++ [t277]) l0_3 (l0_3.length : Int) (wrap64 (x32_2 + 1)) a0_0 a0_1 l0_2 l0_3) else (none)) = some r := H
                    have A23 := Aside0.mk A230
                    clear A230
                    by_cases c24 : x3_2.length < 8796093022208
                    · rw [if_pos c24] at H
                      have LMc24 := Aside0.mk c24
                      clear c24
                      obtain ⟨y278, hy278⟩ : ∃ y_ : List ByteArray, y_ = (x3_2 ++ [t277]) := ⟨_, rfl⟩
                      replace H : (spec_writeBody.l1 k2 y278 l0_3 (l0_3.length : Int) (wrap64 (x32_2 + 1)) a0_0 a0_1 l0_2 l0_3) = some r := by first | (rw [hy278]; with_reducible exact H) | (have H2_ := (Option.bind_some _ _).symm.trans H; rw [hy278]; with_reducible exact H2_) | (have H2_ := (Option.bind_some _ _).symm.trans H; with_reducible exact H2_) | with_reducible exact H | (rw [hy278]; exact H) | exact H
                      have Ny278 := Aside0.mk hy278
                      clear hy278
                      have H' := Aside0.mk H
                      clear H
                      have p275 : 0 ≤ (x32_2 : Int) := of_decide_eq_true (by first | (with_reducible assumption) | assumption)
                      have q275 : x32_2 < (l0_3.length : Int) := of_decide_eq_true (by first | (with_reducible assumption) | assumption)
                      obtain ⟨ad275, A275_2, c275_2, A275_3, c275_3, e275, hx275_0, hx275_1, hx275_2, hx275_3, hl275_2, hi275_2, hl275_3, hi275_3⟩ := at_T25 HR0_3.out x32_2 p275 q275
                      cases e275
                      replace hx275_0 := (HB.out.cell (World.block_lt_of_cell? w _ hx275_0)).trans hx275_0
                      replace hx275_1 := (HB.out.cell (World.block_lt_of_cell? w _ hx275_1)).trans hx275_1
                      replace hx275_2 := (HB.out.cell (World.block_lt_of_cell? w _ hx275_2)).trans hx275_2
                      replace hx275_3 := (HB.out.cell (World.block_lt_of_cell? w _ hx275_3)).trans hx275_3
                      have HR275_2 := Aside0.mk hi275_2
                      have HC275_2 := Aside0.mk hl275_2
                      clear hi275_2 hl275_2
                      have HR275_3 := Aside0.mk hi275_3
                      have HC275_3 := Aside0.mk hl275_3
                      clear hi275_3 hl275_3
                      replace p275 := eq_true p275
                      replace q275 := eq_true q275
                      go_wp2_with (first | ((with_reducible refine gate_dst (N := 7) rfl ?_); refine box_event ?hg (N := 7) ?hd (cs := #[.int .i64 0, .int .i64 0, .slice none 0 0, .slice none 0 0]) (t := 25) ?hr ?_; (case hd => rfl); (case hg => rfl); (case hr => first | (go_simp; done) | (go_simp; rfl)); intro gb276 hg w25 hbox hb; have n0_ := Aside0.mk (Kd.R_below (by (with_reducible repeat (first | apply Kd.R_alloc | apply Kd.R_drewN | apply Kd.R_drew)); exact HO_3.out) hb); have n1_ := Aside0.mk (blk_below (g := gb265) (o := .cells #[.int .i64 a0_0, .int .i64 a0_1, .slice A0_2 l0_2.length c0_2, .slice (some ad275) l0_3.length c0_3] 25 (0, 0)) (by (with_reducible repeat (first | refine blk_drewN ?_ _ | refine blk_drew ?_ | refine blk_alloc ?_ _)); exact BK265.out) hb); have n2_ := Aside0.mk (below_step (by repeat (first | (with_reducible first | exact HB.out | apply below_alloc | apply pw_below_drewN | apply below_drew1 | refine below_set ?_ GE265.out) | exact HB.out)) hb); have n3_ := Aside0.mk (hbox); have n4_ := Aside0.mk ((by rw [hg]; exact (below_size (by repeat (first | (with_reducible first | exact HB.out | apply below_alloc | apply pw_below_drewN | apply below_drew1 | refine below_set ?_ GE265.out) | exact HB.out))) : w.heap.size ≤ gb276)); have n5_ := Aside0.mk ((by rw [hg]; exact (below_size (by repeat (first | (with_reducible first | exact HB.out | apply below_alloc | apply pw_below_drewN | apply below_drew1 | refine below_set ?_ GE265.out) | exact HB.out))) : w.heap.size ≤ gb276)); have n6_ := Aside0.mk ((by rw [hg]; exact Nat.ne_of_lt (blk_lt (g := gb265) (o := .cells #[.int .i64 a0_0, .int .i64 a0_1, .slice A0_2 l0_2.length c0_2, .slice (some ad275) l0_3.length c0_3] 25 (0, 0)) (by (with_reducible repeat (first | refine blk_drewN ?_ _ | refine blk_drew ?_ | refine blk_alloc ?_ _)); exact BK265.out)) : gb265 ≠ gb276)); have n7_ := Aside0.mk ((by rw [hg]; exact Nat.ne_of_gt (blk_lt (g := gb265) (o := .cells #[.int .i64 a0_0, .int .i64 a0_1, .slice A0_2 l0_2.length c0_2, .slice (some ad275) l0_3.length c0_3] 25 (0, 0)) (by (with_reducible repeat (first | refine blk_drewN ?_ _ | refine blk_drew ?_ | refine blk_alloc ?_ _)); exact BK265.out)) : gb276 ≠ gb265)); clear HO_3; clear BK265; clear HB; have HO_3 := n0_; have BK265 := n1_; have HB := n2_; have BK276 := n3_; have GW276 := n4_; have GE276 := n5_; have NB265_276 := n6_; have NB276_265 := n7_; clear n0_ n1_ n2_ n3_ n4_ n5_ n6_ n7_; clear hb hbox hg; have hnb26 := NB276_265.out; have hnc26 := NB265_276.out; have hcz27_0 : w25.cell? ⟨gb276, 0, none⟩ = some (.int .i64 0) := (blk_cell BK276.out 0).trans rfl; have hcz27_1 : w25.cell? ⟨gb276, 1, none⟩ = some (.int .i64 0) := (blk_cell BK276.out 1).trans rfl; have hcz27_2 : w25.cell? ⟨gb276, 2, none⟩ = some (.slice none 0 0) := (blk_cell BK276.out 2).trans rfl; have hcz27_3 : w25.cell? ⟨gb276, 3, none⟩ = some (.slice none 0 0) := (blk_cell BK276.out 3).trans rfl; have hfz27_0 := blk_frozen BK276.out 0; have hfz27_1 := blk_frozen BK276.out 1; have hfz27_2 := blk_frozen BK276.out 2; have hfz27_3 := blk_frozen BK276.out 3; have hcz28_0 : w25.cell? ⟨gb265, 0, none⟩ = some (.int .i64 a0_0) := (blk_cell BK265.out 0).trans rfl; have hcz28_1 : w25.cell? ⟨gb265, 1, none⟩ = some (.int .i64 a0_1) := (blk_cell BK265.out 1).trans rfl; have hcz28_2 : w25.cell? ⟨gb265, 2, none⟩ = some (.slice A0_2 l0_2.length c0_2) := (blk_cell BK265.out 2).trans rfl; have hcz28_3 : w25.cell? ⟨gb265, 3, none⟩ = some (.slice (some ad275) l0_3.length c0_3) := (blk_cell BK265.out 3).trans rfl; have hfz28_0 := blk_frozen BK265.out 0; have hfz28_1 := blk_frozen BK265.out 1; have hfz28_2 := blk_frozen BK265.out 2; have hfz28_3 := blk_frozen BK265.out 3) | ((with_reducible refine gate_callee (f := 12) rfl ?_); refine goesL_ (some 41) rfl rfl Tryz.func12 (by kernel_rfl) rfl #[.agg #[.int .i64 ((rd_T25 l0_3 x32_2).f0), .int .i64 ((rd_T25 l0_3 x32_2).f1), .slice A275_2 ((rd_T25 l0_3 x32_2).f2).length c275_2, .slice A275_3 ((rd_T25 l0_3 x32_2).f3).length c275_3]] rfl (by (try simp only [List.map_toArray, List.map_cons, List.map_nil]); first | done | rfl | (simp only [List.length_drop, List.length_take]; rfl)) ?_; (with_reducible refine (ih2 k2 (by have := HK1.out; have := HK2.out; omega) ((rd_T25 l0_3 x32_2).f0) ((rd_T25 l0_3 x32_2).f1) _ _ ((rd_T25 l0_3 x32_2).f2) _ _ ((rd_T25 l0_3 x32_2).f3) t277 _ ?side1 ?side2 ?side3 ?side4 ?side5 A23.out).mono ?_); (case side1 => exact Kd.C_below HR275_2.out (by repeat (first | (with_reducible first | exact HB.out | apply below_alloc | apply pw_below_drewN | apply below_drew1 | refine below_set ?_ GE265.out | refine below_set ?_ GE276.out) | exact HB.out))); (case side2 => exact HC275_2.out); (case side3 => exact Kd.C_below HR275_3.out (by repeat (first | (with_reducible first | exact HB.out | apply below_alloc | apply pw_below_drewN | apply below_drew1 | refine below_set ?_ GE265.out | refine below_set ?_ GE276.out) | exact HB.out))); (case side4 => exact HC275_3.out); (case side5 => exact Glob.below hG (by repeat (first | (with_reducible first | exact HB.out | apply below_alloc | apply pw_below_drewN | apply below_drew1 | refine below_set ?_ GE265.out | refine below_set ?_ GE276.out) | exact HB.out))); rintro e w29 ⟨rfl, hb⟩; refine ⟨_, rfl, ?_⟩; have n0_ := Aside0.mk (Kd.R_below (by (with_reducible repeat (first | apply Kd.R_alloc | apply Kd.R_drewN | apply Kd.R_drew)); exact (Kd.R_mono (Kd.R_far (p := ⟨gb276, 3, none⟩) (Kd.R_far (p := ⟨gb276, 2, none⟩) (Kd.R_far (p := ⟨gb276, 1, none⟩) (Kd.R_far (p := ⟨gb276, 0, none⟩) (Kd.R_types HO_3.out BK276.out (by decide)) (fun _ hk => hk.2) (.int .i64 ((rd_T25 l0_3 x32_2).f0))) (fun _ hk => hk.2) (.int .i64 ((rd_T25 l0_3 x32_2).f1))) (fun _ hk => hk.2) (.slice A275_2 ((rd_T25 l0_3 x32_2).f2).length c275_2)) (fun _ hk => hk.2) (.slice A275_3 ((rd_T25 l0_3 x32_2).f3).length c275_3)) (fun _ h_ => h_.1))) hb); have n1_ := Aside0.mk (blk_below (g := gb265) (o := .cells #[.int .i64 a0_0, .int .i64 a0_1, .slice A0_2 l0_2.length c0_2, .slice (some ad275) l0_3.length c0_3] 25 (0, 0)) (by (with_reducible repeat (first | refine blk_drewN ?_ _ | refine blk_drew ?_ | refine blk_alloc ?_ _)); refine blk_far ?_ NB265_276.out _; (with_reducible repeat (first | refine blk_drewN ?_ _ | refine blk_drew ?_ | refine blk_alloc ?_ _)); refine blk_far ?_ NB265_276.out _; (with_reducible repeat (first | refine blk_drewN ?_ _ | refine blk_drew ?_ | refine blk_alloc ?_ _)); refine blk_far ?_ NB265_276.out _; (with_reducible repeat (first | refine blk_drewN ?_ _ | refine blk_drew ?_ | refine blk_alloc ?_ _)); refine blk_far ?_ NB265_276.out _; (with_reducible repeat (first | refine blk_drewN ?_ _ | refine blk_drew ?_ | refine blk_alloc ?_ _)); exact BK265.out) hb); have n2_ := Aside0.mk (blk_below (g := gb276) (o := .cells #[.int .i64 ((rd_T25 l0_3 x32_2).f0), .int .i64 ((rd_T25 l0_3 x32_2).f1), .slice A275_2 ((rd_T25 l0_3 x32_2).f2).length c275_2, .slice A275_3 ((rd_T25 l0_3 x32_2).f3).length c275_3] 25 (0, 0)) (by (with_reducible repeat (first | refine blk_drewN ?_ _ | refine blk_drew ?_ | refine blk_alloc ?_ _)); refine blk_put (cs := #[.int .i64 ((rd_T25 l0_3 x32_2).f0), .int .i64 ((rd_T25 l0_3 x32_2).f1), .slice A275_2 ((rd_T25 l0_3 x32_2).f2).length c275_2, .slice none 0 0]) ?_ 3 _ rfl; (with_reducible repeat (first | refine blk_drewN ?_ _ | refine blk_drew ?_ | refine blk_alloc ?_ _)); refine blk_put (cs := #[.int .i64 ((rd_T25 l0_3 x32_2).f0), .int .i64 ((rd_T25 l0_3 x32_2).f1), .slice none 0 0, .slice none 0 0]) ?_ 2 _ rfl; (with_reducible repeat (first | refine blk_drewN ?_ _ | refine blk_drew ?_ | refine blk_alloc ?_ _)); refine blk_put (cs := #[.int .i64 ((rd_T25 l0_3 x32_2).f0), .int .i64 0, .slice none 0 0, .slice none 0 0]) ?_ 1 _ rfl; (with_reducible repeat (first | refine blk_drewN ?_ _ | refine blk_drew ?_ | refine blk_alloc ?_ _)); refine blk_put (cs := #[.int .i64 0, .int .i64 0, .slice none 0 0, .slice none 0 0]) ?_ 0 _ rfl; (with_reducible repeat (first | refine blk_drewN ?_ _ | refine blk_drew ?_ | refine blk_alloc ?_ _)); exact BK276.out) hb); have n3_ := Aside0.mk (below_step (by repeat (first | (with_reducible first | exact HB.out | apply below_alloc | apply pw_below_drewN | apply below_drew1 | refine below_set ?_ GE265.out | refine below_set ?_ GE276.out) | exact HB.out)) hb); clear HO_3; clear BK265; clear BK276; clear HB; have HO_3 := n0_; have BK265 := n1_; have BK276 := n2_; have HB := n3_; clear n0_ n1_ n2_ n3_; (try clear hb); (try clear hb2); (try clear hk); (try clear hi)) | ((with_reducible refine gate_builtin (b := .append) (xs := #[.tmp 39, .tmp 42]) rfl ?_); at_builtin; refine Kd.R_append Kd.string (w0 := w) w.heap.size rfl (.tmp 39) (.tmp 42) 36 9 (.string ⟨#[]⟩) 16 rfl Tryz.underlying36 info9 rfl (by decide) (by omega) u3 x3_2 t277 [.string t277] (fun _ => True) (fun _ => False) rfl rfl ?aP (fun _ hk => hk.elim) ?aF ?aO ?aB ?aS ?aL ?_; (case aP => exact rfl); (case aB => exact (by repeat (first | (with_reducible first | exact HB.out | apply below_alloc | apply pw_below_drewN | apply below_drew1 | refine below_set ?_ GE265.out | refine below_set ?_ GE276.out) | exact HB.out))); (case aF => exact (fun _ _ => trivial)); (case aO => exact (by (with_reducible repeat (first | apply Kd.R_alloc | apply Kd.R_drewN | apply Kd.R_drew)); exact HO_3.out)); (case aS => exact (below_size (by repeat (first | (with_reducible first | exact HB.out | apply below_alloc | apply pw_below_drewN | apply below_drew1 | refine below_set ?_ GE265.out | refine below_set ?_ GE276.out) | exact HB.out)))); (case aL => have := LMc24.out; omega); intro v279 w30 ho hb hg hat; rw [← Ny278.out] at ho; have n0_ := Aside0.mk (blk_grown (g := gb265) (o := .cells #[.int .i64 a0_0, .int .i64 a0_1, .slice A0_2 l0_2.length c0_2, .slice (some ad275) l0_3.length c0_3] 25 (0, 0)) (by (with_reducible repeat (first | refine blk_drewN ?_ _ | refine blk_drew ?_ | refine blk_alloc ?_ _)); exact BK265.out) hg (Kd.R_ne HO_3.out BK265.out (by decide))); have n1_ := Aside0.mk (blk_grown (g := gb276) (o := .cells #[.int .i64 ((rd_T25 l0_3 x32_2).f0), .int .i64 ((rd_T25 l0_3 x32_2).f1), .slice A275_2 ((rd_T25 l0_3 x32_2).f2).length c275_2, .slice A275_3 ((rd_T25 l0_3 x32_2).f3).length c275_3] 25 (0, 0)) (by (with_reducible repeat (first | refine blk_drewN ?_ _ | refine blk_drew ?_ | refine blk_alloc ?_ _)); exact BK276.out) hg (Kd.R_ne HO_3.out BK276.out (by decide))); have n2_ := Aside0.mk (hb); have n3_ := Aside0.mk (ho); clear BK265; clear BK276; clear HB; clear HO_3; have BK265 := n0_; have BK276 := n1_; have HB := n2_; have HO280 := n3_; clear n0_ n1_ n2_ n3_; clear ho hb hg hat))
                      go_roundg k2
                      case measure => have := HK1.out; have := HK2.out; omega
                      case rel => exact ⟨(y278), (wrap64 (x32_2 + 1)), (by first | rfl | (simp; done) | (simp [*]; done)), H', ⟨by have := HK1.out; have := HK2.out; omega⟩, ⟨by (with_reducible repeat (first | apply Kd.R_alloc | apply Kd.R_drewN | apply Kd.R_drew)); exact HO280.out⟩, ⟨by (with_reducible repeat (first | refine blk_drewN ?_ _ | refine blk_drew ?_ | refine blk_alloc ?_ _)); exact BK265.out⟩, ⟨by repeat (first | (with_reducible first | exact HB.out | apply below_alloc | apply pw_below_drewN | apply below_drew1 | refine below_set ?_ GE265.out | refine below_set ?_ GE276.out) | exact HB.out)⟩⟩
                    · rw [if_neg c24] at H
                      exact absurd H (by simp)
                  · rw [if_neg c22] at H
                    have c22b0 : (a0_0 == 0) = false := beq_eq_false_iff_ne.mpr c22
                    have c22b1 : (a0_0 != 0) = true := bne_iff_ne.mpr c22
                    replace H := Option.bind_eq_some_iff.mp H
                    obtain ⟨t281, A310, H⟩ := H
                    replace H : (if x3_2.length < 8796093022208 then (spec_writeBody.l1 k2 (x3_2 ++ [t281]) l0_3 (l0_3.length : Int) (wrap64 (x32_2 + 1)) a0_0 a0_1 l0_2 l0_3) else (none)) = some r := H
                    have A31 := Aside0.mk A310
                    clear A310
                    by_cases c32 : x3_2.length < 8796093022208
                    · rw [if_pos c32] at H
                      have LMc32 := Aside0.mk c32
                      clear c32
                      obtain ⟨y282, hy282⟩ : ∃ y_ : List ByteArray, y_ = (x3_2 ++ [t281]) := ⟨_, rfl⟩
                      replace H : (spec_writeBody.l1 k2 y282 l0_3 (l0_3.length : Int) (wrap64 (x32_2 + 1)) a0_0 a0_1 l0_2 l0_3) = some r := by first | (rw [hy282]; with_reducible exact H) | (have H2_ := (Option.bind_some _ _).symm.trans H; rw [hy282]; with_reducible exact H2_) | (have H2_ := (Option.bind_some _ _).symm.trans H; with_reducible exact H2_) | with_reducible exact H | (rw [hy282]; exact H) | exact H
                      have Ny282 := Aside0.mk hy282
                      clear hy282
                      have H' := Aside0.mk H
                      clear H
                      have p275 : 0 ≤ (x32_2 : Int) := of_decide_eq_true (by first | (with_reducible assumption) | assumption)
                      have q275 : x32_2 < (l0_3.length : Int) := of_decide_eq_true (by first | (with_reducible assumption) | assumption)
                      obtain ⟨ad275, A275_2, c275_2, A275_3, c275_3, e275, hx275_0, hx275_1, hx275_2, hx275_3, hl275_2, hi275_2, hl275_3, hi275_3⟩ := at_T25 HR0_3.out x32_2 p275 q275
                      cases e275
                      replace hx275_0 := (HB.out.cell (World.block_lt_of_cell? w _ hx275_0)).trans hx275_0
                      replace hx275_1 := (HB.out.cell (World.block_lt_of_cell? w _ hx275_1)).trans hx275_1
                      replace hx275_2 := (HB.out.cell (World.block_lt_of_cell? w _ hx275_2)).trans hx275_2
                      replace hx275_3 := (HB.out.cell (World.block_lt_of_cell? w _ hx275_3)).trans hx275_3
                      have HR275_2 := Aside0.mk hi275_2
                      have HC275_2 := Aside0.mk hl275_2
                      clear hi275_2 hl275_2
                      have HR275_3 := Aside0.mk hi275_3
                      have HC275_3 := Aside0.mk hl275_3
                      clear hi275_3 hl275_3
                      replace p275 := eq_true p275
                      replace q275 := eq_true q275
                      go_wp2_with (first | ((with_reducible refine gate_dst (N := 7) rfl ?_); refine box_event ?hg (N := 7) ?hd (cs := #[.int .i64 0, .int .i64 0, .slice none 0 0, .slice none 0 0]) (t := 25) ?hr ?_; (case hd => rfl); (case hg => rfl); (case hr => first | (go_simp; done) | (go_simp; rfl)); intro gb276 hg w33 hbox hb; have n0_ := Aside0.mk (Kd.R_below (by (with_reducible repeat (first | apply Kd.R_alloc | apply Kd.R_drewN | apply Kd.R_drew)); exact HO_3.out) hb); have n1_ := Aside0.mk (blk_below (g := gb265) (o := .cells #[.int .i64 a0_0, .int .i64 a0_1, .slice A0_2 l0_2.length c0_2, .slice (some ad275) l0_3.length c0_3] 25 (0, 0)) (by (with_reducible repeat (first | refine blk_drewN ?_ _ | refine blk_drew ?_ | refine blk_alloc ?_ _)); exact BK265.out) hb); have n2_ := Aside0.mk (below_step (by repeat (first | (with_reducible first | exact HB.out | apply below_alloc | apply pw_below_drewN | apply below_drew1 | refine below_set ?_ GE265.out) | exact HB.out)) hb); have n3_ := Aside0.mk (hbox); have n4_ := Aside0.mk ((by rw [hg]; exact (below_size (by repeat (first | (with_reducible first | exact HB.out | apply below_alloc | apply pw_below_drewN | apply below_drew1 | refine below_set ?_ GE265.out) | exact HB.out))) : w.heap.size ≤ gb276)); have n5_ := Aside0.mk ((by rw [hg]; exact (below_size (by repeat (first | (with_reducible first | exact HB.out | apply below_alloc | apply pw_below_drewN | apply below_drew1 | refine below_set ?_ GE265.out) | exact HB.out))) : w.heap.size ≤ gb276)); have n6_ := Aside0.mk ((by rw [hg]; exact Nat.ne_of_lt (blk_lt (g := gb265) (o := .cells #[.int .i64 a0_0, .int .i64 a0_1, .slice A0_2 l0_2.length c0_2, .slice (some ad275) l0_3.length c0_3] 25 (0, 0)) (by (with_reducible repeat (first | refine blk_drewN ?_ _ | refine blk_drew ?_ | refine blk_alloc ?_ _)); exact BK265.out)) : gb265 ≠ gb276)); have n7_ := Aside0.mk ((by rw [hg]; exact Nat.ne_of_gt (blk_lt (g := gb265) (o := .cells #[.int .i64 a0_0, .int .i64 a0_1, .slice A0_2 l0_2.length c0_2, .slice (some ad275) l0_3.length c0_3] 25 (0, 0)) (by (with_reducible repeat (first | refine blk_drewN ?_ _ | refine blk_drew ?_ | refine blk_alloc ?_ _)); exact BK265.out)) : gb276 ≠ gb265)); clear HO_3; clear BK265; clear HB; have HO_3 := n0_; have BK265 := n1_; have HB := n2_; have BK276 := n3_; have GW276 := n4_; have GE276 := n5_; have NB265_276 := n6_; have NB276_265 := n7_; clear n0_ n1_ n2_ n3_ n4_ n5_ n6_ n7_; clear hb hbox hg; have hnb34 := NB276_265.out; have hnc34 := NB265_276.out; have hcz35_0 : w33.cell? ⟨gb276, 0, none⟩ = some (.int .i64 0) := (blk_cell BK276.out 0).trans rfl; have hcz35_1 : w33.cell? ⟨gb276, 1, none⟩ = some (.int .i64 0) := (blk_cell BK276.out 1).trans rfl; have hcz35_2 : w33.cell? ⟨gb276, 2, none⟩ = some (.slice none 0 0) := (blk_cell BK276.out 2).trans rfl; have hcz35_3 : w33.cell? ⟨gb276, 3, none⟩ = some (.slice none 0 0) := (blk_cell BK276.out 3).trans rfl; have hfz35_0 := blk_frozen BK276.out 0; have hfz35_1 := blk_frozen BK276.out 1; have hfz35_2 := blk_frozen BK276.out 2; have hfz35_3 := blk_frozen BK276.out 3; have hcz36_0 : w33.cell? ⟨gb265, 0, none⟩ = some (.int .i64 a0_0) := (blk_cell BK265.out 0).trans rfl; have hcz36_1 : w33.cell? ⟨gb265, 1, none⟩ = some (.int .i64 a0_1) := (blk_cell BK265.out 1).trans rfl; have hcz36_2 : w33.cell? ⟨gb265, 2, none⟩ = some (.slice A0_2 l0_2.length c0_2) := (blk_cell BK265.out 2).trans rfl; have hcz36_3 : w33.cell? ⟨gb265, 3, none⟩ = some (.slice (some ad275) l0_3.length c0_3) := (blk_cell BK265.out 3).trans rfl; have hfz36_0 := blk_frozen BK265.out 0; have hfz36_1 := blk_frozen BK265.out 1; have hfz36_2 := blk_frozen BK265.out 2; have hfz36_3 := blk_frozen BK265.out 3) | ((with_reducible refine gate_callee (f := 32) rfl ?_); refine goesL_ (some 46) rfl rfl Tryz.func32 (by kernel_rfl) rfl #[.agg #[.int .i64 ((rd_T25 l0_3 x32_2).f0), .int .i64 ((rd_T25 l0_3 x32_2).f1), .slice A275_2 ((rd_T25 l0_3 x32_2).f2).length c275_2, .slice A275_3 ((rd_T25 l0_3 x32_2).f3).length c275_3]] rfl (by (try simp only [List.map_toArray, List.map_cons, List.map_nil]); first | done | rfl | (simp only [List.length_drop, List.length_take]; rfl)) ?_; (with_reducible refine (ih k2 (by have := HK1.out; have := HK2.out; omega) ((rd_T25 l0_3 x32_2).f0) ((rd_T25 l0_3 x32_2).f1) _ _ ((rd_T25 l0_3 x32_2).f2) _ _ ((rd_T25 l0_3 x32_2).f3) t281 _ ?side1 ?side2 ?side3 ?side4 ?side5 A31.out).mono ?_); (case side1 => exact Kd.C_below HR275_2.out (by repeat (first | (with_reducible first | exact HB.out | apply below_alloc | apply pw_below_drewN | apply below_drew1 | refine below_set ?_ GE265.out | refine below_set ?_ GE276.out) | exact HB.out))); (case side2 => exact HC275_2.out); (case side3 => exact Kd.C_below HR275_3.out (by repeat (first | (with_reducible first | exact HB.out | apply below_alloc | apply pw_below_drewN | apply below_drew1 | refine below_set ?_ GE265.out | refine below_set ?_ GE276.out) | exact HB.out))); (case side4 => exact HC275_3.out); (case side5 => exact Glob.below hG (by repeat (first | (with_reducible first | exact HB.out | apply below_alloc | apply pw_below_drewN | apply below_drew1 | refine below_set ?_ GE265.out | refine below_set ?_ GE276.out) | exact HB.out))); rintro e w37 ⟨rfl, hb⟩; refine ⟨_, rfl, ?_⟩; have n0_ := Aside0.mk (Kd.R_below (by (with_reducible repeat (first | apply Kd.R_alloc | apply Kd.R_drewN | apply Kd.R_drew)); exact (Kd.R_mono (Kd.R_far (p := ⟨gb276, 3, none⟩) (Kd.R_far (p := ⟨gb276, 2, none⟩) (Kd.R_far (p := ⟨gb276, 1, none⟩) (Kd.R_far (p := ⟨gb276, 0, none⟩) (Kd.R_types HO_3.out BK276.out (by decide)) (fun _ hk => hk.2) (.int .i64 ((rd_T25 l0_3 x32_2).f0))) (fun _ hk => hk.2) (.int .i64 ((rd_T25 l0_3 x32_2).f1))) (fun _ hk => hk.2) (.slice A275_2 ((rd_T25 l0_3 x32_2).f2).length c275_2)) (fun _ hk => hk.2) (.slice A275_3 ((rd_T25 l0_3 x32_2).f3).length c275_3)) (fun _ h_ => h_.1))) hb); have n1_ := Aside0.mk (blk_below (g := gb265) (o := .cells #[.int .i64 a0_0, .int .i64 a0_1, .slice A0_2 l0_2.length c0_2, .slice (some ad275) l0_3.length c0_3] 25 (0, 0)) (by (with_reducible repeat (first | refine blk_drewN ?_ _ | refine blk_drew ?_ | refine blk_alloc ?_ _)); refine blk_far ?_ NB265_276.out _; (with_reducible repeat (first | refine blk_drewN ?_ _ | refine blk_drew ?_ | refine blk_alloc ?_ _)); refine blk_far ?_ NB265_276.out _; (with_reducible repeat (first | refine blk_drewN ?_ _ | refine blk_drew ?_ | refine blk_alloc ?_ _)); refine blk_far ?_ NB265_276.out _; (with_reducible repeat (first | refine blk_drewN ?_ _ | refine blk_drew ?_ | refine blk_alloc ?_ _)); refine blk_far ?_ NB265_276.out _; (with_reducible repeat (first | refine blk_drewN ?_ _ | refine blk_drew ?_ | refine blk_alloc ?_ _)); exact BK265.out) hb); have n2_ := Aside0.mk (blk_below (g := gb276) (o := .cells #[.int .i64 ((rd_T25 l0_3 x32_2).f0), .int .i64 ((rd_T25 l0_3 x32_2).f1), .slice A275_2 ((rd_T25 l0_3 x32_2).f2).length c275_2, .slice A275_3 ((rd_T25 l0_3 x32_2).f3).length c275_3] 25 (0, 0)) (by (with_reducible repeat (first | refine blk_drewN ?_ _ | refine blk_drew ?_ | refine blk_alloc ?_ _)); refine blk_put (cs := #[.int .i64 ((rd_T25 l0_3 x32_2).f0), .int .i64 ((rd_T25 l0_3 x32_2).f1), .slice A275_2 ((rd_T25 l0_3 x32_2).f2).length c275_2, .slice none 0 0]) ?_ 3 _ rfl; (with_reducible repeat (first | refine blk_drewN ?_ _ | refine blk_drew ?_ | refine blk_alloc ?_ _)); refine blk_put (cs := #[.int .i64 ((rd_T25 l0_3 x32_2).f0), .int .i64 ((rd_T25 l0_3 x32_2).f1), .slice none 0 0, .slice none 0 0]) ?_ 2 _ rfl; (with_reducible repeat (first | refine blk_drewN ?_ _ | refine blk_drew ?_ | refine blk_alloc ?_ _)); refine blk_put (cs := #[.int .i64 ((rd_T25 l0_3 x32_2).f0), .int .i64 0, .slice none 0 0, .slice none 0 0]) ?_ 1 _ rfl; (with_reducible repeat (first | refine blk_drewN ?_ _ | refine blk_drew ?_ | refine blk_alloc ?_ _)); refine blk_put (cs := #[.int .i64 0, .int .i64 0, .slice none 0 0, .slice none 0 0]) ?_ 0 _ rfl; (with_reducible repeat (first | refine blk_drewN ?_ _ | refine blk_drew ?_ | refine blk_alloc ?_ _)); exact BK276.out) hb); have n3_ := Aside0.mk (below_step (by repeat (first | (with_reducible first | exact HB.out | apply below_alloc | apply pw_below_drewN | apply below_drew1 | refine below_set ?_ GE265.out | refine below_set ?_ GE276.out) | exact HB.out)) hb); clear HO_3; clear BK265; clear BK276; clear HB; have HO_3 := n0_; have BK265 := n1_; have BK276 := n2_; have HB := n3_; clear n0_ n1_ n2_ n3_; (try clear hb); (try clear hb2); (try clear hk); (try clear hi)) | ((with_reducible refine gate_builtin (b := .append) (xs := #[.tmp 44, .tmp 47]) rfl ?_); at_builtin; refine Kd.R_append Kd.string (w0 := w) w.heap.size rfl (.tmp 44) (.tmp 47) 36 9 (.string ⟨#[]⟩) 16 rfl Tryz.underlying36 info9 rfl (by decide) (by omega) u3 x3_2 t281 [.string t281] (fun _ => True) (fun _ => False) rfl rfl ?aP (fun _ hk => hk.elim) ?aF ?aO ?aB ?aS ?aL ?_; (case aP => exact rfl); (case aB => exact (by repeat (first | (with_reducible first | exact HB.out | apply below_alloc | apply pw_below_drewN | apply below_drew1 | refine below_set ?_ GE265.out | refine below_set ?_ GE276.out) | exact HB.out))); (case aF => exact (fun _ _ => trivial)); (case aO => exact (by (with_reducible repeat (first | apply Kd.R_alloc | apply Kd.R_drewN | apply Kd.R_drew)); exact HO_3.out)); (case aS => exact (below_size (by repeat (first | (with_reducible first | exact HB.out | apply below_alloc | apply pw_below_drewN | apply below_drew1 | refine below_set ?_ GE265.out | refine below_set ?_ GE276.out) | exact HB.out)))); (case aL => have := LMc32.out; omega); intro v283 w38 ho hb hg hat; rw [← Ny282.out] at ho; have n0_ := Aside0.mk (blk_grown (g := gb265) (o := .cells #[.int .i64 a0_0, .int .i64 a0_1, .slice A0_2 l0_2.length c0_2, .slice (some ad275) l0_3.length c0_3] 25 (0, 0)) (by (with_reducible repeat (first | refine blk_drewN ?_ _ | refine blk_drew ?_ | refine blk_alloc ?_ _)); exact BK265.out) hg (Kd.R_ne HO_3.out BK265.out (by decide))); have n1_ := Aside0.mk (blk_grown (g := gb276) (o := .cells #[.int .i64 ((rd_T25 l0_3 x32_2).f0), .int .i64 ((rd_T25 l0_3 x32_2).f1), .slice A275_2 ((rd_T25 l0_3 x32_2).f2).length c275_2, .slice A275_3 ((rd_T25 l0_3 x32_2).f3).length c275_3] 25 (0, 0)) (by (with_reducible repeat (first | refine blk_drewN ?_ _ | refine blk_drew ?_ | refine blk_alloc ?_ _)); exact BK276.out) hg (Kd.R_ne HO_3.out BK276.out (by decide))); have n2_ := Aside0.mk (hb); have n3_ := Aside0.mk (ho); clear BK265; clear BK276; clear HB; clear HO_3; have BK265 := n0_; have BK276 := n1_; have HB := n2_; have HO284 := n3_; clear n0_ n1_ n2_ n3_; clear ho hb hg hat))
                      go_roundg k2
                      case measure => have := HK1.out; have := HK2.out; omega
                      case rel => exact ⟨(y282), (wrap64 (x32_2 + 1)), (by first | rfl | (simp; done) | (simp [*]; done)), H', ⟨by have := HK1.out; have := HK2.out; omega⟩, ⟨by (with_reducible repeat (first | apply Kd.R_alloc | apply Kd.R_drewN | apply Kd.R_drew)); exact HO284.out⟩, ⟨by (with_reducible repeat (first | refine blk_drewN ?_ _ | refine blk_drew ?_ | refine blk_alloc ?_ _)); exact BK265.out⟩, ⟨by repeat (first | (with_reducible first | exact HB.out | apply below_alloc | apply pw_below_drewN | apply below_drew1 | refine below_set ?_ GE265.out | refine below_set ?_ GE276.out) | exact HB.out)⟩⟩
                    · rw [if_neg c32] at H
                      exact absurd H (by simp)
                · rw [if_neg c21] at H
                  exact absurd H (by simp)
              · rw [if_neg c20] at H
                exact absurd H (by simp)
            · rw [if_neg c19] at H
              have c19b0 : decide (x32_2 < (l0_3.length : Int)) = false := decide_eq_false c19
              clear c19
              by_cases c39 : (x3_2.length : Int) = 0
              · rw [if_pos c39] at H
                have c39b0 : ((x3_2.length : Int) == 0) = true := beq_iff_eq.mpr c39
                have c39b1 : ((x3_2.length : Int) != 0) = false := bne_eq_false_iff_eq.mpr c39
                clear c39
                obtain rfl := Option.some.inj H
                obtain ⟨Ao40, co40, eo40⟩ := Kd.R_slice HO_3.out
                subst eo40
                go_wp2
                go_ret
                exact ⟨by first | rfl | (simp [errW_none, errW_some] <;> rfl) | (simp [*, errW_none, errW_some] <;> rfl), by repeat (first | (with_reducible first | exact HB.out | apply below_alloc | apply pw_below_drewN | apply below_drew1 | refine below_set ?_ GE265.out) | exact HB.out)⟩
              · rw [if_neg c39] at H
                have c39b0 : ((x3_2.length : Int) == 0) = false := beq_eq_false_iff_ne.mpr c39
                have c39b1 : ((x3_2.length : Int) != 0) = true := bne_iff_ne.mpr c39
                have c39b2 : ¬ (x3_2 = []) := fun h_ => c39 (by rw [h_]; rfl)
                have H' := Aside0.mk H
                clear H
                obtain ⟨Ao41, co41, eo41⟩ := Kd.R_slice HO_3.out
                subst eo41
                go_wp2
                go_loopg [8, 55] k2 (fun kq v8 v55 w' => ∃ (x8_3 : ByteArray) (x55_3 : Int), v8 = .string x8_3 ∧ v55 = .int .i64 x55_3 ∧ Aside0 (spec_writeBody.l2 kq x8_3 x3_2 (x3_2.length : Int) x55_3 = some r) ∧ Aside0 (kq ≤ k2) ∧ Aside0 (Kd.R Kd.string 9 w' w.heap.size (fun _ => True) (.slice Ao41 x3_2.length co41) x3_2) ∧ Aside0 (w'.heap[gb265]? = some (.cells #[.int .i64 a0_0, .int .i64 a0_1, (.slice A0_2 l0_2.length c0_2), (.slice A0_3 l0_3.length c0_3)] 25 (0, 0))) ∧ Aside0 (Below w.heap.size w w'))
                case atStart => exact ⟨((⟨#[40]⟩ : ByteArray)), (0), (by first | rfl | (simp; done) | (simp [*]; done)), (by first | rfl | (simp; done) | (simp [*]; done)), H', ⟨Nat.le_refl _⟩, ⟨by (with_reducible repeat (first | apply Kd.R_alloc | apply Kd.R_drewN | apply Kd.R_drew)); exact HO_3.out⟩, ⟨by (with_reducible repeat (first | refine blk_drewN ?_ _ | refine blk_drew ?_ | refine blk_alloc ?_ _)); exact BK265.out⟩, ⟨by repeat (first | (with_reducible first | exact HB.out | apply below_alloc | apply pw_below_drewN | apply below_drew1 | refine below_set ?_ GE265.out) | exact HB.out)⟩⟩
                case round =>
                  clear H'
                  try clear c1
                  try clear c2
                  try clear p2
                  try clear q2
                  try clear hx2
                  try clear c3
                  try clear c5
                  try clear p6
                  try clear c7
                  try clear c7b0
                  try clear c8
                  try clear c8b0
                  try clear c9
                  try clear c9b0
                  try clear c11
                  try clear c12
                  try clear c13
                  try clear c19
                  try clear c19b0
                  try clear c20
                  try clear c20b0
                  try clear c21
                  try clear c21b0
                  try clear c22
                  try clear c22b0
                  try clear c22b1
                  try clear c24
                  try clear c26
                  try clear p26
                  try clear q26
                  try clear hx26
                  try clear c27
                  try clear p27
                  try clear q27
                  try clear hx27
                  try clear c32
                  try clear c34
                  try clear c39
                  try clear c39b0
                  try clear c39b1
                  try clear c39b2
                  try clear hcz14_0
                  try clear hcz14_1
                  try clear hcz14_2
                  try clear hcz14_3
                  try clear hcz15_0
                  try clear hcz15_1
                  try clear hcz15_2
                  try clear hcz15_3
                  try clear hcz18_0
                  try clear hcz18_1
                  try clear hcz18_2
                  try clear hcz18_3
                  try clear hcz27_0
                  try clear hcz27_1
                  try clear hcz27_2
                  try clear hcz27_3
                  try clear hcz28_0
                  try clear hcz28_1
                  try clear hcz28_2
                  try clear hcz28_3
                  try clear hcz35_0
                  try clear hcz35_1
                  try clear hcz35_2
                  try clear hcz35_3
                  try clear hcz36_0
                  try clear hcz36_1
                  try clear hcz36_2
                  try clear hcz36_3
                  try clear hcz4_0
                  try clear hcz4_1
                  try clear hcz4_2
                  try clear hcz4_3
                  try clear hfz14_0
                  try clear hfz14_1
                  try clear hfz14_2
                  try clear hfz14_3
                  try clear hfz15_0
                  try clear hfz15_1
                  try clear hfz15_2
                  try clear hfz15_3
                  try clear hfz18_0
                  try clear hfz18_1
                  try clear hfz18_2
                  try clear hfz18_3
                  try clear hfz27_0
                  try clear hfz27_1
                  try clear hfz27_2
                  try clear hfz27_3
                  try clear hfz28_0
                  try clear hfz28_1
                  try clear hfz28_2
                  try clear hfz28_3
                  try clear hfz35_0
                  try clear hfz35_1
                  try clear hfz35_2
                  try clear hfz35_3
                  try clear hfz36_0
                  try clear hfz36_1
                  try clear hfz36_2
                  try clear hfz36_3
                  try clear hfz4_0
                  try clear hfz4_1
                  try clear hfz4_2
                  try clear hfz4_3
                  try clear hx269_0
                  try clear hx269_1
                  try clear hx269_2
                  try clear hx269_3
                  try clear hx275_0
                  try clear hx275_1
                  try clear hx275_2
                  try clear hx275_3
                  try clear p2
                  try clear p269
                  try clear p275
                  try clear p6
                  try clear q2
                  try clear q269
                  try clear q275
                  obtain ⟨x8_3, x55_3, rfl, rfl, HA, HK3, HO_53, BK265, HB⟩ := hrel
                  cases gk with
                  | zero => exact absurd HA.out (by simp [spec_writeBody.l2])
                  | succ k3 =>
                    have H := HA.out
                    clear HA
                    simp only [spec_writeBody.l2] at H
                    by_cases c42 : x55_3 < (x3_2.length : Int)
                    · rw [if_pos c42] at H
                      have c42b0 : decide (x55_3 < (x3_2.length : Int)) = true := decide_eq_true c42
                      clear c42
                      by_cases c43 : 0 ≤ x55_3
                      · rw [if_pos c43] at H
                        have c43b0 : decide (0 ≤ x55_3) = true := decide_eq_true c43
                        clear c43
                        by_cases c44 : x55_3 < (x3_2.length : Int)
                        · rw [if_pos c44] at H
                          have c44b0 : decide (x55_3 < (x3_2.length : Int)) = true := decide_eq_true c44
                          clear c44
                          by_cases c45 : x55_3 > 0
                          · rw [if_pos c45] at H
                            have c45b0 : decide (0 < x55_3) = true := decide_eq_true c45
                            clear c45
                            by_cases c46 : x8_3.size + 1 ≤ 9223372036854775807
                            · rw [if_pos c46] at H
                              have c46b0 := eq_true c46
                              have c46b1 : decide (x8_3.size + 1 ≤ 9223372036854775807) = true := decide_eq_true c46
                              try have c46b2 : (9223372036854775807 < x8_3.size + 1) = False := eq_false (Nat.not_lt.2 c46)
                              by_cases c47 : (x8_3 ++ (⟨#[44]⟩ : ByteArray)).size + (rdOf ByteArray.empty x3_2 x55_3).size ≤ 9223372036854775807
                              · rw [if_pos c47] at H
                                have c47b0 := eq_true c47
                                have c47b1 : decide ((x8_3 ++ (⟨#[44]⟩ : ByteArray)).size + (rdOf ByteArray.empty x3_2 x55_3).size ≤ 9223372036854775807) = true := decide_eq_true c47
                                try have c47b2 : (9223372036854775807 < (x8_3 ++ (⟨#[44]⟩ : ByteArray)).size + (rdOf ByteArray.empty x3_2 x55_3).size) = False := eq_false (Nat.not_lt.2 c47)
                                (try (have c47b5 := c47; simp only [ByteArray.size_append, show (⟨#[44]⟩ : ByteArray).size = 1 from rfl] at c47b5))
                                have H' := Aside0.mk H
                                clear H
                                have p285 : 0 ≤ (x55_3 : Int) := of_decide_eq_true (by first | (with_reducible assumption) | assumption)
                                have q285 : x55_3 < (x3_2.length : Int) := of_decide_eq_true (by first | (with_reducible assumption) | assumption)
                                obtain ⟨ad285, e285, hx285_0⟩ := Kd.at_string (Kd.R_reads' HO_53.out).2.2 x55_3 p285 q285
                                cases e285
                                replace p285 := eq_true p285
                                replace q285 := eq_true q285
                                go_wp2
                                go_roundg k3
                                case measure => have := HK1.out; have := HK2.out; have := HK3.out; omega
                                case rel => exact ⟨((x8_3 ++ (⟨#[44]⟩ : ByteArray)) ++ (rdOf ByteArray.empty x3_2 x55_3)), (wrap64 (x55_3 + 1)), (by first | rfl | (simp; done) | (simp [*]; done)), (by first | rfl | (simp; done) | (simp [*]; done)), H', ⟨by have := HK1.out; have := HK2.out; have := HK3.out; omega⟩, ⟨by (with_reducible repeat (first | apply Kd.R_alloc | apply Kd.R_drewN | apply Kd.R_drew)); exact HO_53.out⟩, ⟨by (with_reducible repeat (first | refine blk_drewN ?_ _ | refine blk_drew ?_ | refine blk_alloc ?_ _)); exact BK265.out⟩, ⟨by repeat (first | (with_reducible first | exact HB.out | apply below_alloc | apply pw_below_drewN | apply below_drew1 | refine below_set ?_ GE265.out) | exact HB.out)⟩⟩
                              · rw [if_neg c47] at H
                                exact absurd H (by simp)
                            · rw [if_neg c46] at H
                              exact absurd H (by simp)
                          · rw [if_neg c45] at H
                            have c45b0 : decide (0 < x55_3) = false := decide_eq_false c45
                            clear c45
                            by_cases c48 : x8_3.size + (rdOf ByteArray.empty x3_2 x55_3).size ≤ 9223372036854775807
                            · rw [if_pos c48] at H
                              have c48b0 := eq_true c48
                              have c48b1 : decide (x8_3.size + (rdOf ByteArray.empty x3_2 x55_3).size ≤ 9223372036854775807) = true := decide_eq_true c48
                              try have c48b2 : (9223372036854775807 < x8_3.size + (rdOf ByteArray.empty x3_2 x55_3).size) = False := eq_false (Nat.not_lt.2 c48)
                              have H' := Aside0.mk H
                              clear H
                              have p285 : 0 ≤ (x55_3 : Int) := of_decide_eq_true (by first | (with_reducible assumption) | assumption)
                              have q285 : x55_3 < (x3_2.length : Int) := of_decide_eq_true (by first | (with_reducible assumption) | assumption)
                              obtain ⟨ad285, e285, hx285_0⟩ := Kd.at_string (Kd.R_reads' HO_53.out).2.2 x55_3 p285 q285
                              cases e285
                              replace p285 := eq_true p285
                              replace q285 := eq_true q285
                              go_wp2
                              go_roundg k3
                              case measure => have := HK1.out; have := HK2.out; have := HK3.out; omega
                              case rel => exact ⟨(x8_3 ++ (rdOf ByteArray.empty x3_2 x55_3)), (wrap64 (x55_3 + 1)), (by first | rfl | (simp; done) | (simp [*]; done)), (by first | rfl | (simp; done) | (simp [*]; done)), H', ⟨by have := HK1.out; have := HK2.out; have := HK3.out; omega⟩, ⟨by (with_reducible repeat (first | apply Kd.R_alloc | apply Kd.R_drewN | apply Kd.R_drew)); exact HO_53.out⟩, ⟨by (with_reducible repeat (first | refine blk_drewN ?_ _ | refine blk_drew ?_ | refine blk_alloc ?_ _)); exact BK265.out⟩, ⟨by repeat (first | (with_reducible first | exact HB.out | apply below_alloc | apply pw_below_drewN | apply below_drew1 | refine below_set ?_ GE265.out) | exact HB.out)⟩⟩
                            · rw [if_neg c48] at H
                              exact absurd H (by simp)
                        · rw [if_neg c44] at H
                          exact absurd H (by simp)
                      · rw [if_neg c43] at H
                        exact absurd H (by simp)
                    · rw [if_neg c42] at H
                      have c42b0 : decide (x55_3 < (x3_2.length : Int)) = false := decide_eq_false c42
                      clear c42
                      by_cases c49 : x8_3.size + 1 ≤ 9223372036854775807
                      · rw [if_pos c49] at H
                        have c49b0 := eq_true c49
                        have c49b1 : decide (x8_3.size + 1 ≤ 9223372036854775807) = true := decide_eq_true c49
                        try have c49b2 : (9223372036854775807 < x8_3.size + 1) = False := eq_false (Nat.not_lt.2 c49)
                        obtain rfl := Option.some.inj H
                        go_wp2
                        go_ret
                        exact ⟨by first | rfl | (simp [errW_none, errW_some] <;> rfl) | (simp [*, errW_none, errW_some] <;> rfl), by repeat (first | (with_reducible first | exact HB.out | apply below_alloc | apply pw_below_drewN | apply below_drew1 | refine below_set ?_ GE265.out) | exact HB.out)⟩
                      · rw [if_neg c49] at H
                        exact absurd H (by simp)

/-! ### spec_WriteWKT: function 12 -/

set_option maxHeartbeats 8000000 in
set_option maxRecDepth 100000 in
theorem spec_WriteWKT.step (k : Nat) (ih : ∀ m, m < k → spec_WriteWKT.Con m) (ih2 : ∀ m, m < k → spec_writeBody.Con m) : spec_WriteWKT.Con k := by
  intro a0_0 a0_1 A0_2 c0_2 l0_2 A0_3 c0_3 l0_3 r w hr0_2 hc0_2 hr0_3 hc0_3 hG h
  cases k with
  | zero => exact absurd h (by simp [spec_WriteWKT.f])
  | succ k =>
  simp only [spec_WriteWKT.f] at h
  have hu25 := Tryz.underlying25
  have HR0_2 := Aside0.mk hr0_2
  have HC0_2 := Aside0.mk hc0_2
  clear hr0_2 hc0_2
  have HR0_3 := Aside0.mk hr0_3
  have HC0_3 := Aside0.mk hc0_3
  clear hr0_3 hc0_3
  have HB := Aside0.mk (Below.refl w.heap.size w)
  have H : ((spec_kindName.f a0_0).bind fun t287 => (if a0_1 = 0 then ((spec_writeBody.f k a0_0 a0_1 l0_2 l0_3).bind fun t288 => (if t288.toList = ([69, 77, 80, 84, 89] : List UInt8) then (if t287.size + 1 ≤ 9223372036854775807 then (if (t287 ++ (⟨#[32]⟩ : ByteArray)).size + t288.size ≤ 9223372036854775807 then (some ((t287 ++ (⟨#[32]⟩ : ByteArray)) ++ t288)) else (none)) else (none)) else (if t287.size + t288.size ≤ 9223372036854775807 then (some (t287 ++ t288)) else (none)))) else ((spec_dimName.f a0_1).bind fun t289 => (if 1 + t289.size ≤ 9223372036854775807 then (if t287.size + ((⟨#[32]⟩ : ByteArray) ++ t289).size ≤ 9223372036854775807 then ((spec_writeBody.f k a0_0 a0_1 l0_2 l0_3).bind fun t290 => (if (t287 ++ ((⟨#[32]⟩ : ByteArray) ++ t289)).size + 1 ≤ 9223372036854775807 then (if ((t287 ++ ((⟨#[32]⟩ : ByteArray) ++ t289)) ++ (⟨#[32]⟩ : ByteArray)).size + t290.size ≤ 9223372036854775807 then (some (((t287 ++ ((⟨#[32]⟩ : ByteArray) ++ t289)) ++ (⟨#[32]⟩ : ByteArray)) ++ t290)) else (none)) else (none))) else (none)) else (none))))) = some r := h
  clear h
  replace H := Option.bind_eq_some_iff.mp H
  obtain ⟨t287, A20, H⟩ := H
  replace H : (if a0_1 = 0 then ((spec_writeBody.f k a0_0 a0_1 l0_2 l0_3).bind fun t288 => (if t288.toList = ([69, 77, 80, 84, 89] : List UInt8) then (if t287.size + 1 ≤ 9223372036854775807 then (if (t287 ++ (⟨#[32]⟩ : ByteArray)).size + t288.size ≤ 9223372036854775807 then (some ((t287 ++ (⟨#[32]⟩ : ByteArray)) ++ t288)) else (none)) else (none)) else (if t287.size + t288.size ≤ 9223372036854775807 then (some (t287 ++ t288)) else (none)))) else ((spec_dimName.f a0_1).bind fun t289 => (if 1 + t289.size ≤ 9223372036854775807 then (if t287.size + ((⟨#[32]⟩ : ByteArray) ++ t289).size ≤ 9223372036854775807 then ((spec_writeBody.f k a0_0 a0_1 l0_2 l0_3).bind fun t290 => (if (t287 ++ ((⟨#[32]⟩ : ByteArray) ++ t289)).size + 1 ≤ 9223372036854775807 then (if ((t287 ++ ((⟨#[32]⟩ : ByteArray) ++ t289)) ++ (⟨#[32]⟩ : ByteArray)).size + t290.size ≤ 9223372036854775807 then (some (((t287 ++ ((⟨#[32]⟩ : ByteArray) ++ t289)) ++ (⟨#[32]⟩ : ByteArray)) ++ t290)) else (none)) else (none))) else (none)) else (none)))) = some r := H
  have A2 := Aside0.mk A20
  clear A20
  by_cases c3 : a0_1 = 0
  · rw [if_pos c3] at H
    have c3b0 : (a0_1 == 0) = true := beq_iff_eq.mpr c3
    have c3b1 : (a0_1 != 0) = false := bne_eq_false_iff_eq.mpr c3
    clear c3
    replace H := Option.bind_eq_some_iff.mp H
    obtain ⟨t288, A40, H⟩ := H
    replace H : (if t288.toList = ([69, 77, 80, 84, 89] : List UInt8) then (if t287.size + 1 ≤ 9223372036854775807 then (if (t287 ++ (⟨#[32]⟩ : ByteArray)).size + t288.size ≤ 9223372036854775807 then (some ((t287 ++ (⟨#[32]⟩ : ByteArray)) ++ t288)) else (none)) else (none)) else (if t287.size + t288.size ≤ 9223372036854775807 then (some (t287 ++ t288)) else (none))) = some r := H
    have A4 := Aside0.mk A40
    clear A40
    by_cases c5 : t288.toList = ([69, 77, 80, 84, 89] : List UInt8)
    · rw [if_pos c5] at H
      have c5b0 : (t288.toList == ([69, 77, 80, 84, 89] : List UInt8)) = true := beq_iff_eq.mpr c5
      have c5b1 : (t288.toList != ([69, 77, 80, 84, 89] : List UInt8)) = false := bne_eq_false_iff_eq.mpr c5
      clear c5
      by_cases c6 : t287.size + 1 ≤ 9223372036854775807
      · rw [if_pos c6] at H
        have c6b0 := eq_true c6
        have c6b1 : decide (t287.size + 1 ≤ 9223372036854775807) = true := decide_eq_true c6
        try have c6b2 : (9223372036854775807 < t287.size + 1) = False := eq_false (Nat.not_lt.2 c6)
        by_cases c7 : (t287 ++ (⟨#[32]⟩ : ByteArray)).size + t288.size ≤ 9223372036854775807
        · rw [if_pos c7] at H
          have c7b0 := eq_true c7
          have c7b1 : decide ((t287 ++ (⟨#[32]⟩ : ByteArray)).size + t288.size ≤ 9223372036854775807) = true := decide_eq_true c7
          try have c7b2 : (9223372036854775807 < (t287 ++ (⟨#[32]⟩ : ByteArray)).size + t288.size) = False := eq_false (Nat.not_lt.2 c7)
          (try (have c7b5 := c7; simp only [ByteArray.size_append, show (⟨#[32]⟩ : ByteArray).size = 1 from rfl] at c7b5))
          obtain rfl := Option.some.inj H
          go_enter Tryz.func12, Tryz.ntmps12
          go_wp2_with (first | ((with_reducible refine gate_dst (N := 1) rfl ?_); refine box_event ?hg (N := 1) ?hd (cs := #[.int .i64 a0_0, .int .i64 a0_1, .slice A0_2 l0_2.length c0_2, .slice A0_3 l0_3.length c0_3]) (t := 25) ?hr ?_; (case hd => rfl); (case hg => rfl); (case hr => first | (go_simp; done) | (go_simp; rfl)); intro gb286 hg w8 hbox hb; have n0_ := Aside0.mk (below_step (by repeat (first | (with_reducible first | exact HB.out | apply below_alloc | apply pw_below_drewN | apply below_drew1) | exact HB.out)) hb); have n1_ := Aside0.mk (hbox); have n2_ := Aside0.mk ((by rw [hg]; exact (below_size (by repeat (first | (with_reducible first | exact HB.out | apply below_alloc | apply pw_below_drewN | apply below_drew1) | exact HB.out))) : w.heap.size ≤ gb286)); have n3_ := Aside0.mk ((by rw [hg]; exact (below_size (by repeat (first | (with_reducible first | exact HB.out | apply below_alloc | apply pw_below_drewN | apply below_drew1) | exact HB.out))) : w.heap.size ≤ gb286)); clear HB; have HB := n0_; have BK286 := n1_; have GW286 := n2_; have GE286 := n3_; clear n0_ n1_ n2_ n3_; clear hb hbox hg; have hcz9_0 : w8.cell? ⟨gb286, 0, none⟩ = some (.int .i64 a0_0) := (blk_cell BK286.out 0).trans rfl; have hcz9_1 : w8.cell? ⟨gb286, 1, none⟩ = some (.int .i64 a0_1) := (blk_cell BK286.out 1).trans rfl; have hcz9_2 : w8.cell? ⟨gb286, 2, none⟩ = some (.slice A0_2 l0_2.length c0_2) := (blk_cell BK286.out 2).trans rfl; have hcz9_3 : w8.cell? ⟨gb286, 3, none⟩ = some (.slice A0_3 l0_3.length c0_3) := (blk_cell BK286.out 3).trans rfl; have hfz9_0 := blk_frozen BK286.out 0; have hfz9_1 := blk_frozen BK286.out 1; have hfz9_2 := blk_frozen BK286.out 2; have hfz9_3 := blk_frozen BK286.out 3) | ((with_reducible refine gate_callee (f := 30) rfl ?_); refine goesL_ (some 7) rfl rfl Tryz.func30 (by kernel_rfl) rfl #[.int .i64 a0_0] rfl (by (try simp only [List.map_toArray, List.map_cons, List.map_nil]); first | done | rfl | (simp only [List.length_drop, List.length_take]; rfl)) ?_; (with_reducible refine (spec_kindName.calls a0_0 t287 _ A2.out).mono ?_); rintro e w' ⟨rfl, ⟨nd, rfl⟩⟩; refine ⟨_, rfl, ?_⟩) | ((with_reducible refine gate_callee (f := 32) rfl ?_); refine goesL_ (some 18) rfl rfl Tryz.func32 (by kernel_rfl) rfl #[.agg #[.int .i64 a0_0, .int .i64 a0_1, .slice A0_2 l0_2.length c0_2, .slice A0_3 l0_3.length c0_3]] rfl (by (try simp only [List.map_toArray, List.map_cons, List.map_nil]); first | done | rfl | (simp only [List.length_drop, List.length_take]; rfl)) ?_; (with_reducible refine (ih2 k (by omega) a0_0 a0_1 _ _ l0_2 _ _ l0_3 t288 _ ?side1 ?side2 ?side3 ?side4 ?side5 A4.out).mono ?_); (case side1 => repeat (first | exact (Kd.C_below HR0_2.out (by repeat (first | (with_reducible first | exact HB.out | apply below_alloc | apply pw_below_drewN | apply below_drew1 | refine below_set ?_ GE286.out) | exact HB.out))) | (with_reducible refine Kd.C_alloc ?_ _) | (with_reducible refine Kd.C_drewN ?_ _) | (with_reducible refine Kd.C_drew ?_))); (case side2 => exact HC0_2.out); (case side3 => repeat (first | exact (Kd.C_below HR0_3.out (by repeat (first | (with_reducible first | exact HB.out | apply below_alloc | apply pw_below_drewN | apply below_drew1 | refine below_set ?_ GE286.out) | exact HB.out))) | (with_reducible refine Kd.C_alloc ?_ _) | (with_reducible refine Kd.C_drewN ?_ _) | (with_reducible refine Kd.C_drew ?_))); (case side4 => exact HC0_3.out); (case side5 => exact Glob.below hG (by repeat (first | (with_reducible first | exact HB.out | apply below_alloc | apply pw_below_drewN | apply below_drew1 | refine below_set ?_ GE286.out) | exact HB.out))); rintro e w10 ⟨rfl, hb⟩; refine ⟨_, rfl, ?_⟩; have n0_ := Aside0.mk (blk_below (g := gb286) (o := .cells #[.int .i64 a0_0, .int .i64 a0_1, .slice A0_2 l0_2.length c0_2, .slice A0_3 l0_3.length c0_3] 25 (0, 0)) (by (with_reducible repeat (first | refine blk_drewN ?_ _ | refine blk_drew ?_ | refine blk_alloc ?_ _)); exact BK286.out) hb); have n1_ := Aside0.mk (below_step (by repeat (first | (with_reducible first | exact HB.out | apply below_alloc | apply pw_below_drewN | apply below_drew1 | refine below_set ?_ GE286.out) | exact HB.out)) hb); clear BK286; clear HB; have BK286 := n0_; have HB := n1_; clear n0_ n1_; (try clear hb); (try clear hb2); (try clear hk); (try clear hi); have hcz11_0 : w10.cell? ⟨gb286, 0, none⟩ = some (.int .i64 a0_0) := (blk_cell BK286.out 0).trans rfl; have hcz11_1 : w10.cell? ⟨gb286, 1, none⟩ = some (.int .i64 a0_1) := (blk_cell BK286.out 1).trans rfl; have hcz11_2 : w10.cell? ⟨gb286, 2, none⟩ = some (.slice A0_2 l0_2.length c0_2) := (blk_cell BK286.out 2).trans rfl; have hcz11_3 : w10.cell? ⟨gb286, 3, none⟩ = some (.slice A0_3 l0_3.length c0_3) := (blk_cell BK286.out 3).trans rfl; have hfz11_0 := blk_frozen BK286.out 0; have hfz11_1 := blk_frozen BK286.out 1; have hfz11_2 := blk_frozen BK286.out 2; have hfz11_3 := blk_frozen BK286.out 3))
          go_ret
          exact ⟨by first | rfl | (simp [errW_none, errW_some] <;> rfl) | (simp [*, errW_none, errW_some] <;> rfl), by repeat (first | (with_reducible first | exact HB.out | apply below_alloc | apply pw_below_drewN | apply below_drew1 | refine below_set ?_ GE286.out) | exact HB.out)⟩
        · rw [if_neg c7] at H
          exact absurd H (by simp)
      · rw [if_neg c6] at H
        exact absurd H (by simp)
    · rw [if_neg c5] at H
      have c5b0 : (t288.toList == ([69, 77, 80, 84, 89] : List UInt8)) = false := beq_eq_false_iff_ne.mpr c5
      have c5b1 : (t288.toList != ([69, 77, 80, 84, 89] : List UInt8)) = true := bne_iff_ne.mpr c5
      by_cases c12 : t287.size + t288.size ≤ 9223372036854775807
      · rw [if_pos c12] at H
        have c12b0 := eq_true c12
        have c12b1 : decide (t287.size + t288.size ≤ 9223372036854775807) = true := decide_eq_true c12
        try have c12b2 : (9223372036854775807 < t287.size + t288.size) = False := eq_false (Nat.not_lt.2 c12)
        obtain rfl := Option.some.inj H
        go_enter Tryz.func12, Tryz.ntmps12
        go_wp2_with (first | ((with_reducible refine gate_dst (N := 1) rfl ?_); refine box_event ?hg (N := 1) ?hd (cs := #[.int .i64 a0_0, .int .i64 a0_1, .slice A0_2 l0_2.length c0_2, .slice A0_3 l0_3.length c0_3]) (t := 25) ?hr ?_; (case hd => rfl); (case hg => rfl); (case hr => first | (go_simp; done) | (go_simp; rfl)); intro gb286 hg w13 hbox hb; have n0_ := Aside0.mk (below_step (by repeat (first | (with_reducible first | exact HB.out | apply below_alloc | apply pw_below_drewN | apply below_drew1) | exact HB.out)) hb); have n1_ := Aside0.mk (hbox); have n2_ := Aside0.mk ((by rw [hg]; exact (below_size (by repeat (first | (with_reducible first | exact HB.out | apply below_alloc | apply pw_below_drewN | apply below_drew1) | exact HB.out))) : w.heap.size ≤ gb286)); have n3_ := Aside0.mk ((by rw [hg]; exact (below_size (by repeat (first | (with_reducible first | exact HB.out | apply below_alloc | apply pw_below_drewN | apply below_drew1) | exact HB.out))) : w.heap.size ≤ gb286)); clear HB; have HB := n0_; have BK286 := n1_; have GW286 := n2_; have GE286 := n3_; clear n0_ n1_ n2_ n3_; clear hb hbox hg; have hcz14_0 : w13.cell? ⟨gb286, 0, none⟩ = some (.int .i64 a0_0) := (blk_cell BK286.out 0).trans rfl; have hcz14_1 : w13.cell? ⟨gb286, 1, none⟩ = some (.int .i64 a0_1) := (blk_cell BK286.out 1).trans rfl; have hcz14_2 : w13.cell? ⟨gb286, 2, none⟩ = some (.slice A0_2 l0_2.length c0_2) := (blk_cell BK286.out 2).trans rfl; have hcz14_3 : w13.cell? ⟨gb286, 3, none⟩ = some (.slice A0_3 l0_3.length c0_3) := (blk_cell BK286.out 3).trans rfl; have hfz14_0 := blk_frozen BK286.out 0; have hfz14_1 := blk_frozen BK286.out 1; have hfz14_2 := blk_frozen BK286.out 2; have hfz14_3 := blk_frozen BK286.out 3) | ((with_reducible refine gate_callee (f := 30) rfl ?_); refine goesL_ (some 7) rfl rfl Tryz.func30 (by kernel_rfl) rfl #[.int .i64 a0_0] rfl (by (try simp only [List.map_toArray, List.map_cons, List.map_nil]); first | done | rfl | (simp only [List.length_drop, List.length_take]; rfl)) ?_; (with_reducible refine (spec_kindName.calls a0_0 t287 _ A2.out).mono ?_); rintro e w' ⟨rfl, ⟨nd, rfl⟩⟩; refine ⟨_, rfl, ?_⟩) | ((with_reducible refine gate_callee (f := 32) rfl ?_); refine goesL_ (some 18) rfl rfl Tryz.func32 (by kernel_rfl) rfl #[.agg #[.int .i64 a0_0, .int .i64 a0_1, .slice A0_2 l0_2.length c0_2, .slice A0_3 l0_3.length c0_3]] rfl (by (try simp only [List.map_toArray, List.map_cons, List.map_nil]); first | done | rfl | (simp only [List.length_drop, List.length_take]; rfl)) ?_; (with_reducible refine (ih2 k (by omega) a0_0 a0_1 _ _ l0_2 _ _ l0_3 t288 _ ?side1 ?side2 ?side3 ?side4 ?side5 A4.out).mono ?_); (case side1 => repeat (first | exact (Kd.C_below HR0_2.out (by repeat (first | (with_reducible first | exact HB.out | apply below_alloc | apply pw_below_drewN | apply below_drew1 | refine below_set ?_ GE286.out) | exact HB.out))) | (with_reducible refine Kd.C_alloc ?_ _) | (with_reducible refine Kd.C_drewN ?_ _) | (with_reducible refine Kd.C_drew ?_))); (case side2 => exact HC0_2.out); (case side3 => repeat (first | exact (Kd.C_below HR0_3.out (by repeat (first | (with_reducible first | exact HB.out | apply below_alloc | apply pw_below_drewN | apply below_drew1 | refine below_set ?_ GE286.out) | exact HB.out))) | (with_reducible refine Kd.C_alloc ?_ _) | (with_reducible refine Kd.C_drewN ?_ _) | (with_reducible refine Kd.C_drew ?_))); (case side4 => exact HC0_3.out); (case side5 => exact Glob.below hG (by repeat (first | (with_reducible first | exact HB.out | apply below_alloc | apply pw_below_drewN | apply below_drew1 | refine below_set ?_ GE286.out) | exact HB.out))); rintro e w15 ⟨rfl, hb⟩; refine ⟨_, rfl, ?_⟩; have n0_ := Aside0.mk (blk_below (g := gb286) (o := .cells #[.int .i64 a0_0, .int .i64 a0_1, .slice A0_2 l0_2.length c0_2, .slice A0_3 l0_3.length c0_3] 25 (0, 0)) (by (with_reducible repeat (first | refine blk_drewN ?_ _ | refine blk_drew ?_ | refine blk_alloc ?_ _)); exact BK286.out) hb); have n1_ := Aside0.mk (below_step (by repeat (first | (with_reducible first | exact HB.out | apply below_alloc | apply pw_below_drewN | apply below_drew1 | refine below_set ?_ GE286.out) | exact HB.out)) hb); clear BK286; clear HB; have BK286 := n0_; have HB := n1_; clear n0_ n1_; (try clear hb); (try clear hb2); (try clear hk); (try clear hi); have hcz16_0 : w15.cell? ⟨gb286, 0, none⟩ = some (.int .i64 a0_0) := (blk_cell BK286.out 0).trans rfl; have hcz16_1 : w15.cell? ⟨gb286, 1, none⟩ = some (.int .i64 a0_1) := (blk_cell BK286.out 1).trans rfl; have hcz16_2 : w15.cell? ⟨gb286, 2, none⟩ = some (.slice A0_2 l0_2.length c0_2) := (blk_cell BK286.out 2).trans rfl; have hcz16_3 : w15.cell? ⟨gb286, 3, none⟩ = some (.slice A0_3 l0_3.length c0_3) := (blk_cell BK286.out 3).trans rfl; have hfz16_0 := blk_frozen BK286.out 0; have hfz16_1 := blk_frozen BK286.out 1; have hfz16_2 := blk_frozen BK286.out 2; have hfz16_3 := blk_frozen BK286.out 3))
        go_ret
        exact ⟨by first | rfl | (simp [errW_none, errW_some] <;> rfl) | (simp [*, errW_none, errW_some] <;> rfl), by repeat (first | (with_reducible first | exact HB.out | apply below_alloc | apply pw_below_drewN | apply below_drew1 | refine below_set ?_ GE286.out) | exact HB.out)⟩
      · rw [if_neg c12] at H
        exact absurd H (by simp)
  · rw [if_neg c3] at H
    have c3b0 : (a0_1 == 0) = false := beq_eq_false_iff_ne.mpr c3
    have c3b1 : (a0_1 != 0) = true := bne_iff_ne.mpr c3
    replace H := Option.bind_eq_some_iff.mp H
    obtain ⟨t289, A170, H⟩ := H
    replace H : (if 1 + t289.size ≤ 9223372036854775807 then (if t287.size + ((⟨#[32]⟩ : ByteArray) ++ t289).size ≤ 9223372036854775807 then ((spec_writeBody.f k a0_0 a0_1 l0_2 l0_3).bind fun t290 => (if (t287 ++ ((⟨#[32]⟩ : ByteArray) ++ t289)).size + 1 ≤ 9223372036854775807 then (if ((t287 ++ ((⟨#[32]⟩ : ByteArray) ++ t289)) ++ (⟨#[32]⟩ : ByteArray)).size + t290.size ≤ 9223372036854775807 then (some (((t287 ++ ((⟨#[32]⟩ : ByteArray) ++ t289)) ++ (⟨#[32]⟩ : ByteArray)) ++ t290)) else (none)) else (none))) else (none)) else (none)) = some r := H
    have A17 := Aside0.mk A170
    clear A170
    by_cases c18 : 1 + t289.size ≤ 9223372036854775807
    · rw [if_pos c18] at H
      have c18b0 := eq_true c18
      have c18b1 : decide (1 + t289.size ≤ 9223372036854775807) = true := decide_eq_true c18
      try have c18b2 : (9223372036854775807 < 1 + t289.size) = False := eq_false (Nat.not_lt.2 c18)
      by_cases c19 : t287.size + ((⟨#[32]⟩ : ByteArray) ++ t289).size ≤ 9223372036854775807
      · rw [if_pos c19] at H
        have c19b0 := eq_true c19
        have c19b1 : decide (t287.size + ((⟨#[32]⟩ : ByteArray) ++ t289).size ≤ 9223372036854775807) = true := decide_eq_true c19
        try have c19b2 : (9223372036854775807 < t287.size + ((⟨#[32]⟩ : ByteArray) ++ t289).size) = False := eq_false (Nat.not_lt.2 c19)
        (try (have c19b5 := c19; simp only [ByteArray.size_append, show (⟨#[32]⟩ : ByteArray).size = 1 from rfl] at c19b5))
        replace H := Option.bind_eq_some_iff.mp H
        obtain ⟨t290, A200, H⟩ := H
        replace H : (if (t287 ++ ((⟨#[32]⟩ : ByteArray) ++ t289)).size + 1 ≤ 9223372036854775807 then (if ((t287 ++ ((⟨#[32]⟩ : ByteArray) ++ t289)) ++ (⟨#[32]⟩ : ByteArray)).size + t290.size ≤ 9223372036854775807 then (some (((t287 ++ ((⟨#[32]⟩ : ByteArray) ++ t289)) ++ (⟨#[32]⟩ : ByteArray)) ++ t290)) else (none)) else (none)) = some r := H
        have A20 := Aside0.mk A200
        clear A200
        by_cases c21 : (t287 ++ ((⟨#[32]⟩ : ByteArray) ++ t289)).size + 1 ≤ 9223372036854775807
        · rw [if_pos c21] at H
          have c21b0 := eq_true c21
          have c21b1 : decide ((t287 ++ ((⟨#[32]⟩ : ByteArray) ++ t289)).size + 1 ≤ 9223372036854775807) = true := decide_eq_true c21
          try have c21b2 : (9223372036854775807 < (t287 ++ ((⟨#[32]⟩ : ByteArray) ++ t289)).size + 1) = False := eq_false (Nat.not_lt.2 c21)
          (try (have c21b5 := c21; simp only [ByteArray.size_append, show (⟨#[32]⟩ : ByteArray).size = 1 from rfl] at c21b5))
          by_cases c22 : ((t287 ++ ((⟨#[32]⟩ : ByteArray) ++ t289)) ++ (⟨#[32]⟩ : ByteArray)).size + t290.size ≤ 9223372036854775807
          · rw [if_pos c22] at H
            have c22b0 := eq_true c22
            have c22b1 : decide (((t287 ++ ((⟨#[32]⟩ : ByteArray) ++ t289)) ++ (⟨#[32]⟩ : ByteArray)).size + t290.size ≤ 9223372036854775807) = true := decide_eq_true c22
            try have c22b2 : (9223372036854775807 < ((t287 ++ ((⟨#[32]⟩ : ByteArray) ++ t289)) ++ (⟨#[32]⟩ : ByteArray)).size + t290.size) = False := eq_false (Nat.not_lt.2 c22)
            (try (have c22b5 := c22; simp only [ByteArray.size_append, show (⟨#[32]⟩ : ByteArray).size = 1 from rfl] at c22b5))
            obtain rfl := Option.some.inj H
            go_enter Tryz.func12, Tryz.ntmps12
            go_wp2_with (first | ((with_reducible refine gate_dst (N := 1) rfl ?_); refine box_event ?hg (N := 1) ?hd (cs := #[.int .i64 a0_0, .int .i64 a0_1, .slice A0_2 l0_2.length c0_2, .slice A0_3 l0_3.length c0_3]) (t := 25) ?hr ?_; (case hd => rfl); (case hg => rfl); (case hr => first | (go_simp; done) | (go_simp; rfl)); intro gb286 hg w23 hbox hb; have n0_ := Aside0.mk (below_step (by repeat (first | (with_reducible first | exact HB.out | apply below_alloc | apply pw_below_drewN | apply below_drew1) | exact HB.out)) hb); have n1_ := Aside0.mk (hbox); have n2_ := Aside0.mk ((by rw [hg]; exact (below_size (by repeat (first | (with_reducible first | exact HB.out | apply below_alloc | apply pw_below_drewN | apply below_drew1) | exact HB.out))) : w.heap.size ≤ gb286)); have n3_ := Aside0.mk ((by rw [hg]; exact (below_size (by repeat (first | (with_reducible first | exact HB.out | apply below_alloc | apply pw_below_drewN | apply below_drew1) | exact HB.out))) : w.heap.size ≤ gb286)); clear HB; have HB := n0_; have BK286 := n1_; have GW286 := n2_; have GE286 := n3_; clear n0_ n1_ n2_ n3_; clear hb hbox hg; have hcz24_0 : w23.cell? ⟨gb286, 0, none⟩ = some (.int .i64 a0_0) := (blk_cell BK286.out 0).trans rfl; have hcz24_1 : w23.cell? ⟨gb286, 1, none⟩ = some (.int .i64 a0_1) := (blk_cell BK286.out 1).trans rfl; have hcz24_2 : w23.cell? ⟨gb286, 2, none⟩ = some (.slice A0_2 l0_2.length c0_2) := (blk_cell BK286.out 2).trans rfl; have hcz24_3 : w23.cell? ⟨gb286, 3, none⟩ = some (.slice A0_3 l0_3.length c0_3) := (blk_cell BK286.out 3).trans rfl; have hfz24_0 := blk_frozen BK286.out 0; have hfz24_1 := blk_frozen BK286.out 1; have hfz24_2 := blk_frozen BK286.out 2; have hfz24_3 := blk_frozen BK286.out 3) | ((with_reducible refine gate_callee (f := 30) rfl ?_); refine goesL_ (some 7) rfl rfl Tryz.func30 (by kernel_rfl) rfl #[.int .i64 a0_0] rfl (by (try simp only [List.map_toArray, List.map_cons, List.map_nil]); first | done | rfl | (simp only [List.length_drop, List.length_take]; rfl)) ?_; (with_reducible refine (spec_kindName.calls a0_0 t287 _ A2.out).mono ?_); rintro e w' ⟨rfl, ⟨nd, rfl⟩⟩; refine ⟨_, rfl, ?_⟩) | ((with_reducible refine gate_callee (f := 31) rfl ?_); refine goesL_ (some 14) rfl rfl Tryz.func31 (by kernel_rfl) rfl #[.int .i64 a0_1] rfl (by (try simp only [List.map_toArray, List.map_cons, List.map_nil]); first | done | rfl | (simp only [List.length_drop, List.length_take]; rfl)) ?_; (with_reducible refine (spec_dimName.calls a0_1 t289 _ A17.out).mono ?_); rintro e w' ⟨rfl, ⟨nd, rfl⟩⟩; refine ⟨_, rfl, ?_⟩) | ((with_reducible refine gate_callee (f := 32) rfl ?_); refine goesL_ (some 18) rfl rfl Tryz.func32 (by kernel_rfl) rfl #[.agg #[.int .i64 a0_0, .int .i64 a0_1, .slice A0_2 l0_2.length c0_2, .slice A0_3 l0_3.length c0_3]] rfl (by (try simp only [List.map_toArray, List.map_cons, List.map_nil]); first | done | rfl | (simp only [List.length_drop, List.length_take]; rfl)) ?_; (with_reducible refine (ih2 k (by omega) a0_0 a0_1 _ _ l0_2 _ _ l0_3 t290 _ ?side1 ?side2 ?side3 ?side4 ?side5 A20.out).mono ?_); (case side1 => repeat (first | exact (Kd.C_below HR0_2.out (by repeat (first | (with_reducible first | exact HB.out | apply below_alloc | apply pw_below_drewN | apply below_drew1 | refine below_set ?_ GE286.out) | exact HB.out))) | (with_reducible refine Kd.C_alloc ?_ _) | (with_reducible refine Kd.C_drewN ?_ _) | (with_reducible refine Kd.C_drew ?_))); (case side2 => exact HC0_2.out); (case side3 => repeat (first | exact (Kd.C_below HR0_3.out (by repeat (first | (with_reducible first | exact HB.out | apply below_alloc | apply pw_below_drewN | apply below_drew1 | refine below_set ?_ GE286.out) | exact HB.out))) | (with_reducible refine Kd.C_alloc ?_ _) | (with_reducible refine Kd.C_drewN ?_ _) | (with_reducible refine Kd.C_drew ?_))); (case side4 => exact HC0_3.out); (case side5 => exact Glob.below hG (by repeat (first | (with_reducible first | exact HB.out | apply below_alloc | apply pw_below_drewN | apply below_drew1 | refine below_set ?_ GE286.out) | exact HB.out))); rintro e w25 ⟨rfl, hb⟩; refine ⟨_, rfl, ?_⟩; have n0_ := Aside0.mk (blk_below (g := gb286) (o := .cells #[.int .i64 a0_0, .int .i64 a0_1, .slice A0_2 l0_2.length c0_2, .slice A0_3 l0_3.length c0_3] 25 (0, 0)) (by (with_reducible repeat (first | refine blk_drewN ?_ _ | refine blk_drew ?_ | refine blk_alloc ?_ _)); exact BK286.out) hb); have n1_ := Aside0.mk (below_step (by repeat (first | (with_reducible first | exact HB.out | apply below_alloc | apply pw_below_drewN | apply below_drew1 | refine below_set ?_ GE286.out) | exact HB.out)) hb); clear BK286; clear HB; have BK286 := n0_; have HB := n1_; clear n0_ n1_; (try clear hb); (try clear hb2); (try clear hk); (try clear hi); have hcz26_0 : w25.cell? ⟨gb286, 0, none⟩ = some (.int .i64 a0_0) := (blk_cell BK286.out 0).trans rfl; have hcz26_1 : w25.cell? ⟨gb286, 1, none⟩ = some (.int .i64 a0_1) := (blk_cell BK286.out 1).trans rfl; have hcz26_2 : w25.cell? ⟨gb286, 2, none⟩ = some (.slice A0_2 l0_2.length c0_2) := (blk_cell BK286.out 2).trans rfl; have hcz26_3 : w25.cell? ⟨gb286, 3, none⟩ = some (.slice A0_3 l0_3.length c0_3) := (blk_cell BK286.out 3).trans rfl; have hfz26_0 := blk_frozen BK286.out 0; have hfz26_1 := blk_frozen BK286.out 1; have hfz26_2 := blk_frozen BK286.out 2; have hfz26_3 := blk_frozen BK286.out 3))
            go_ret
            exact ⟨by first | rfl | (simp [errW_none, errW_some] <;> rfl) | (simp [*, errW_none, errW_some] <;> rfl), by repeat (first | (with_reducible first | exact HB.out | apply below_alloc | apply pw_below_drewN | apply below_drew1 | refine below_set ?_ GE286.out) | exact HB.out)⟩
          · rw [if_neg c22] at H
            exact absurd H (by simp)
        · rw [if_neg c21] at H
          exact absurd H (by simp)
      · rw [if_neg c19] at H
        exact absurd H (by simp)
    · rw [if_neg c18] at H
      exact absurd H (by simp)

theorem spec_writeBody.both (k : Nat) : spec_writeBody.Con k ∧ spec_WriteWKT.Con k := by
  induction k using Nat.strongRecOn with
  | _ k ih => exact ⟨spec_writeBody.step k (fun m hm => (ih m hm).1) (fun m hm => (ih m hm).2), spec_WriteWKT.step k (fun m hm => (ih m hm).2) (fun m hm => (ih m hm).1)⟩
theorem spec_writeBody.calls (k : Nat) : spec_writeBody.Con k := (spec_writeBody.both k).1
theorem spec_WriteWKT.calls (k : Nat) : spec_WriteWKT.Con k := (spec_writeBody.both k).2

end Go.Proofs.YtpbcfgehmalppaaGreatDoorW.QPt
