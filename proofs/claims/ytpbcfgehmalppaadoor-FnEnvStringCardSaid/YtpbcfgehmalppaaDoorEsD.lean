/- The envelope of two corners, as the law has it and as the package makes it. -/
import Derived.Test.YtpbcfgehmalppaaDoorEsC
import Derived.StillTailTactics
namespace Go.Proofs.YtpbcfgehmalppaaDoor
open Go.RowKit

attribute [local go_sem] run_store_float

theorem five_cells {w : World} {g T : Nat} {a0 a1 a2 a3 a4 : Value} (h : Blk w g T #[a0, a1, a2, a3, a4]) (b0 b1 b2 b3 b4 : Value) :
    (w.setCell ⟨g, 0, none⟩ b0).cell? ⟨g, 0, none⟩ = some b0 ∧
    ((w.setCell ⟨g, 0, none⟩ b0).setCell ⟨g, 1, none⟩ b1).cell? ⟨g, 1, none⟩ = some b1 ∧
    (((w.setCell ⟨g, 0, none⟩ b0).setCell ⟨g, 1, none⟩ b1).setCell ⟨g, 2, none⟩ b2).cell? ⟨g, 2, none⟩ = some b2 ∧
    ((((w.setCell ⟨g, 0, none⟩ b0).setCell ⟨g, 1, none⟩ b1).setCell ⟨g, 2, none⟩ b2).setCell ⟨g, 3, none⟩ b3).cell? ⟨g, 3, none⟩ = some b3 ∧
    (((((w.setCell ⟨g, 0, none⟩ b0).setCell ⟨g, 1, none⟩ b1).setCell ⟨g, 2, none⟩ b2).setCell ⟨g, 3, none⟩ b3).setCell ⟨g, 4, none⟩ b4).cell? ⟨g, 4, none⟩ = some b4 := by
  have k0 := h.set_ 0 b0
  have k1 := k0.set_ 1 b1
  have k2 := k1.set_ 2 b2
  have k3 := k2.set_ 3 b3
  have k4 := k3.set_ 4 b4
  refine ⟨?_, ?_, ?_, ?_, ?_⟩
  · simpa using k0.cell 0
  · simpa using k1.cell 1
  · simpa using k2.cell 2
  · simpa using k3.cell 3
  · simpa using k4.cell 4
theorem below_setCell' {B : Nat} {w w1 : World} (h : Below B w w1) {p : Addr} (hp : B ≤ p.block) (u : Value) : Below B w (w1.setCell p u) :=
  h.trans ⟨rfl, rfl, rfl, by simp [World.setCell], fun k hk => Below.heap_setCell _ p u k (by omega)⟩
theorem below_five {B g : Nat} {w w1 : World} (h : Below B w w1) (hg : B ≤ g) (b0 b1 b2 b3 b4 : Value) :
    Below B w (((((w1.setCell ⟨g, 0, none⟩ b0).setCell ⟨g, 1, none⟩ b1).setCell ⟨g, 2, none⟩ b2).setCell ⟨g, 3, none⟩ b3).setCell ⟨g, 4, none⟩ b4) :=
  below_setCell' (below_setCell' (below_setCell' (below_setCell' (below_setCell' h (p := ⟨g, 0, none⟩) hg _) (p := ⟨g, 1, none⟩) hg _) (p := ⟨g, 2, none⟩) hg _) (p := ⟨g, 3, none⟩) hg _) (p := ⟨g, 4, none⟩) hg _

set_option maxRecDepth 100000 in
theorem eMade_full (a b c d : Nat) (ha : Fin64 a) (hb : Fin64 b) (hc : Fin64 c) (hd : Fin64 d) (w : World) :
    Calls Tryd.prog 20 #[.agg #[.bool true, .float .f64 a, .float .f64 b, .float .f64 c, .float .f64 d]] w fun e w' => e = .returned (.agg #[.bool true, .float .f64 (fMin a c), .float .f64 (fMin b d), .float .f64 (fMax a c), .float .f64 (fMax b d)]) ∧ Below w.heap.size w w' := by
  have hA : Below w.heap.size w (w.alloc (.cells #[.bool true, .float .f64 a, .float .f64 b, .float .f64 c, .float .f64 d] 46)) := (Below.refl _ _).alloc (Nat.le_refl _) _
  have hB := hA.alloc (by simp) (.cells #[.bool false, .float .f64 0, .float .f64 0, .float .f64 0, .float .f64 0] 46)
  have hk0 := Blk.new (w.alloc (.cells #[.bool true, .float .f64 a, .float .f64 b, .float .f64 c, .float .f64 d] 46)) 46 #[.bool false, .float .f64 0, .float .f64 0, .float .f64 0, .float .f64 0]
  rw [World.size_alloc] at hk0
  go_enter Tryd.func20, Tryd.ntmps20
  go_wp2_with fail
  refine (eCorners_full a b c d _).mono ?_
  rintro e w1 ⟨g, rfl, hg, hk, h1⟩
  have hk1 := hk0.below h1 (by simp)
  have hC := hB.trans (h1.mono (by simp; omega))
  clear hA hB hk0 h1
  go_wp2_with fail
  refine (eOf_two a b c d ha hb hc hd g _ hk).mono ?_
  rintro e w2 ⟨rfl, h2⟩
  have hk2 := hk1.below h2 hk1.lt
  have hD := hC.trans (h2.mono hC.size)
  clear hk1 hC h2 hk hg
  obtain ⟨t0, t1, t2, t3, t4⟩ := five_cells hk2 (.bool true) (.float .f64 (fMin a c)) (.float .f64 (fMin b d)) (.float .f64 (fMax a c)) (.float .f64 (fMax b d))
  have r0 := hk2.cell 0
  have r1 := hk2.cell 1
  have r2 := hk2.cell 2
  have r3 := hk2.cell 3
  have r4 := hk2.cell 4
  have y0 := hk2.frozen 0
  have y1 := hk2.frozen 1
  have y2 := hk2.frozen 2
  have y3 := hk2.frozen 3
  have y4 := hk2.frozen 4
  simp at r0 r1 r2 r3 r4
  go_wp2
  refine bodyPost_ret (by simp [results, Tryd.results20, go_sem, t0, t1, t2, t3, t4]; try rfl) rfl ?_
  exact ⟨rfl, below_five hD (Nat.le_succ _) _ _ _ _ _⟩
set_option maxRecDepth 100000 in
theorem eMade_not (a b c d : Nat) (w : World) :
    Calls Tryd.prog 20 #[.agg #[.bool false, .float .f64 a, .float .f64 b, .float .f64 c, .float .f64 d]] w fun e w' => e = .returned (.agg #[.bool false, .float .f64 0, .float .f64 0, .float .f64 0, .float .f64 0]) ∧ Below w.heap.size w w' := by
  have hA : Below w.heap.size w (w.alloc (.cells #[.bool false, .float .f64 a, .float .f64 b, .float .f64 c, .float .f64 d] 46)) := (Below.refl _ _).alloc (Nat.le_refl _) _
  have hB := hA.alloc (by simp) (.cells #[.bool false, .float .f64 0, .float .f64 0, .float .f64 0, .float .f64 0] 46)
  have hk0 := Blk.new (w.alloc (.cells #[.bool false, .float .f64 a, .float .f64 b, .float .f64 c, .float .f64 d] 46)) 46 #[.bool false, .float .f64 0, .float .f64 0, .float .f64 0, .float .f64 0]
  rw [World.size_alloc] at hk0
  go_enter Tryd.func20, Tryd.ntmps20
  go_wp2_with fail
  refine (eCorners_not a b c d _).mono ?_
  rintro e w1 ⟨rfl, h1⟩
  have hk1 := hk0.below h1 (by simp)
  have hC := hB.trans (h1.mono (by simp; omega))
  clear hA hB hk0 h1
  go_wp2_with fail
  refine (eOf_nil _).mono ?_
  rintro e w2 ⟨rfl, h2⟩
  have hk2 := hk1.below h2 hk1.lt
  have hD := hC.trans (h2.mono hC.size)
  clear hk1 hC h2
  obtain ⟨t0, t1, t2, t3, t4⟩ := five_cells hk2 (.bool false) (.float .f64 0) (.float .f64 0) (.float .f64 0) (.float .f64 0)
  have r0 := hk2.cell 0
  have r1 := hk2.cell 1
  have r2 := hk2.cell 2
  have r3 := hk2.cell 3
  have r4 := hk2.cell 4
  have y0 := hk2.frozen 0
  have y1 := hk2.frozen 1
  have y2 := hk2.frozen 2
  have y3 := hk2.frozen 3
  have y4 := hk2.frozen 4
  simp at r0 r1 r2 r3 r4
  go_wp2
  refine bodyPost_ret (by simp [results, Tryd.results20, go_sem, t0, t1, t2, t3, t4]; try rfl) rfl ?_
  exact ⟨rfl, below_five hD (Nat.le_succ _) _ _ _ _ _⟩

theorem IsEmpty_any (x y m n : Nat) (f : Bool) (w : World) : Calls Tryd.prog 63 #[.agg #[.float .f64 x, .float .f64 y, .float .f64 m, .float .f64 n, .bool f]] w fun e w' => e = .returned (.bool !f) ∧ Below w.heap.size w w' := by
  go_enter Tryd.func63, Tryd.ntmps63
  go_wp2
  go_ret
  exact ⟨rfl, by go_grown⟩
theorem unchecked_any (x y m n : Nat) (w : World) : Calls Tryd.prog 95 #[.agg #[.float .f64 x, .float .f64 y], .agg #[.float .f64 m, .float .f64 n]] w fun e w' => e = .returned (.agg #[.float .f64 x, .float .f64 y, .float .f64 m, .float .f64 n, .bool true]) ∧ Below w.heap.size w w' := by
  go_enter Tryd.func95, Tryd.ntmps95
  go_wp2
  go_returns
  exact ⟨rfl, by go_grown⟩

set_option maxRecDepth 100000 in
theorem Expand_first (a b x y m n : Nat) (w : World) : Calls Tryd.prog 75 #[.agg #[.float .f64 x, .float .f64 y, .float .f64 m, .float .f64 n, .bool false], .agg #[.float .f64 a, .float .f64 b]] w fun e w' =>
    e = .returned (.agg #[.float .f64 a, .float .f64 b, .float .f64 a, .float .f64 b, .bool true]) ∧ Below w.heap.size w w' := by
  have hA : Below w.heap.size w (w.alloc (.cells #[.float .f64 x, .float .f64 y, .float .f64 m, .float .f64 n, .bool false] 83)) := (Below.refl _ _).alloc (Nat.le_refl _) _
  have hB := hA.alloc (by simp) (.cells #[.float .f64 a, .float .f64 b] 59)
  have hC := hB.alloc (by simp; omega) (.cells #[.float .f64 0, .float .f64 0, .float .f64 0, .float .f64 0, .bool false] 83)
  have k1 := Blk.new (w.alloc (.cells #[.float .f64 x, .float .f64 y, .float .f64 m, .float .f64 n, .bool false] 83)) 59 #[.float .f64 a, .float .f64 b]
  have k2 := Blk.new ((w.alloc (.cells #[.float .f64 x, .float .f64 y, .float .f64 m, .float .f64 n, .bool false] 83)).alloc (.cells #[.float .f64 a, .float .f64 b] 59)) 83 #[.float .f64 0, .float .f64 0, .float .f64 0, .float .f64 0, .bool false]
  rw [World.size_alloc] at k1
  rw [World.size_alloc, World.size_alloc] at k2
  have k1' := k1.alloc (.cells #[.float .f64 0, .float .f64 0, .float .f64 0, .float .f64 0, .bool false] 83)
  go_enter Tryd.func75, Tryd.ntmps75
  go_wp2_with fail
  refine (IsEmpty_any x y m n false _).mono ?_
  rintro e w1 ⟨rfl, h1⟩
  have e1 := k1'.below h1 (by simp)
  have e2 := k2.below h1 (by simp)
  have hD := hC.trans (h1.mono (by simp; omega))
  have x0 := e1.cell 0
  have x1 := e1.cell 1
  simp at x0 x1
  clear hA hB hC k1 k2 k1' h1
  go_wp2_with fail
  refine (unchecked_any a b a b _).mono ?_
  rintro e w2 ⟨rfl, h2⟩
  have e3 := e2.below h2 e2.lt
  have hE := hD.trans (h2.mono hD.size)
  clear h2 hD e1 e2 x0 x1
  obtain ⟨t0, t1, t2, t3, t4⟩ := five_cells e3 (.float .f64 a) (.float .f64 b) (.float .f64 a) (.float .f64 b) (.bool true)
  have r0 := e3.cell 0
  have r1 := e3.cell 1
  have r2 := e3.cell 2
  have r3 := e3.cell 3
  have r4 := e3.cell 4
  have y0 := e3.frozen 0
  have y1 := e3.frozen 1
  have y2 := e3.frozen 2
  have y3 := e3.frozen 3
  have y4 := e3.frozen 4
  simp at r0 r1 r2 r3 r4
  go_wp2
  refine bodyPost_ret (by simp [results, Tryd.results75, go_sem, t0, t1, t2, t3, t4]; try rfl) rfl ?_
  exact ⟨rfl, below_five hE (by omega) _ _ _ _ _⟩

set_option maxHeartbeats 2000000 in
set_option maxRecDepth 100000 in
theorem Expand_more (a b c d : Nat) (ha : Fin64 a) (hb : Fin64 b) (hc : Fin64 c) (hd : Fin64 d) (na : a ≠ 9223372036854775808) (nb : b ≠ 9223372036854775808) (nc : c ≠ 9223372036854775808) (nd : d ≠ 9223372036854775808) (w : World) :
    Calls Tryd.prog 75 #[.agg #[.float .f64 a, .float .f64 b, .float .f64 a, .float .f64 b, .bool true], .agg #[.float .f64 c, .float .f64 d]] w fun e w' =>
    e = .returned (.agg #[.float .f64 (fMin a c), .float .f64 (fMin b d), .float .f64 (fMax a c), .float .f64 (fMax b d), .bool true]) ∧ Below w.heap.size w w' := by
  have f1 := fastMin_any a c ha hc
  have f2 := fastMin_any b d hb hd
  have f3 := fastMax_any a c ha hc
  have f4 := fastMax_any b d hb hd
  rw [← fMin_alt ha hc na nc] at f1
  rw [← fMin_alt hb hd nb nd] at f2
  rw [← fMax_alt ha hc na nc] at f3
  rw [← fMax_alt hb hd nb nd] at f4
  obtain ⟨p1, hp1⟩ : ∃ p, p = fMin a c := ⟨_, rfl⟩
  obtain ⟨p2, hp2⟩ : ∃ p, p = fMin b d := ⟨_, rfl⟩
  obtain ⟨p3, hp3⟩ : ∃ p, p = fMax a c := ⟨_, rfl⟩
  obtain ⟨p4, hp4⟩ : ∃ p, p = fMax b d := ⟨_, rfl⟩
  rw [← hp1] at f1 ⊢
  rw [← hp2] at f2 ⊢
  rw [← hp3] at f3 ⊢
  rw [← hp4] at f4 ⊢
  clear hp1 hp2 hp3 hp4
  have hA : Below w.heap.size w (w.alloc (.cells #[.float .f64 a, .float .f64 b, .float .f64 a, .float .f64 b, .bool true] 83)) := (Below.refl _ _).alloc (Nat.le_refl _) _
  have hB := hA.alloc (by simp) (.cells #[.float .f64 c, .float .f64 d] 59)
  have hC := hB.alloc (by simp; omega) (.cells #[.float .f64 0, .float .f64 0, .float .f64 0, .float .f64 0, .bool false] 83)
  have k0 := Blk.new w 83 #[.float .f64 a, .float .f64 b, .float .f64 a, .float .f64 b, .bool true]
  have k1 := Blk.new (w.alloc (.cells #[.float .f64 a, .float .f64 b, .float .f64 a, .float .f64 b, .bool true] 83)) 59 #[.float .f64 c, .float .f64 d]
  have k2 := Blk.new ((w.alloc (.cells #[.float .f64 a, .float .f64 b, .float .f64 a, .float .f64 b, .bool true] 83)).alloc (.cells #[.float .f64 c, .float .f64 d] 59)) 83 #[.float .f64 0, .float .f64 0, .float .f64 0, .float .f64 0, .bool false]
  rw [World.size_alloc] at k1
  rw [World.size_alloc, World.size_alloc] at k2
  have k0' := (k0.alloc (.cells #[.float .f64 c, .float .f64 d] 59)).alloc (.cells #[.float .f64 0, .float .f64 0, .float .f64 0, .float .f64 0, .bool false] 83)
  have k1' := k1.alloc (.cells #[.float .f64 0, .float .f64 0, .float .f64 0, .float .f64 0, .bool false] 83)
  go_enter Tryd.func75, Tryd.ntmps75
  go_wp2_with fail
  refine (IsEmpty_any a b a b true _).mono ?_
  rintro e w1 ⟨rfl, h1⟩
  have e0 := k0'.below h1 (by simp; omega)
  have e1 := k1'.below h1 (by simp)
  have e2 := k2.below h1 (by simp)
  have hD := Below.drew (hC.trans (h1.mono (by simp; omega)))
  have z0 := e0.cell 0
  have z1 := e0.cell 1
  have z2 := e0.cell 2
  have z3 := e0.cell 3
  have x0 := e1.cell 0
  have x1 := e1.cell 1
  simp at x0 x1 z0 z1 z2 z3
  clear hA hB hC k0 k1 k2 k0' k1' h1
  go_wp2
  refine wp_region_still_tail 26 (by kernel_rfl) (by kernel_rfl) ?_
  simp only [List.take_succ_cons, List.take_zero, List.drop_succ_cons, List.drop_zero]
  change wpStill _ _ (World.drew _) _ _ _
  repeat still_step
  still_call (f1 _)
  repeat still_step
  still_call (f2 _)
  repeat still_step
  still_call (f3 _)
  repeat still_step
  still_call (f4 _)
  repeat still_step
  refine wpStill_nil ?_
  change wpList _ _ _ _ _ (World.drew _)
  go_wp2_with fail
  refine (unchecked_any p1 p2 p3 p4 _).mono ?_
  rintro e w2 ⟨rfl, h2⟩
  have e3 := (Blk.drew e2).below h2 e2.lt
  have hE := hD.trans (h2.mono hD.size)
  clear h2 hD e1 e2 x0 x1 z0 z1 z2 z3
  obtain ⟨t0, t1, t2, t3, t4⟩ := five_cells e3 (.float .f64 p1) (.float .f64 p2) (.float .f64 p3) (.float .f64 p4) (.bool true)
  have r0 := e3.cell 0
  have r1 := e3.cell 1
  have r2 := e3.cell 2
  have r3 := e3.cell 3
  have r4 := e3.cell 4
  have y0 := e3.frozen 0
  have y1 := e3.frozen 1
  have y2 := e3.frozen 2
  have y3 := e3.frozen 3
  have y4 := e3.frozen 4
  simp at r0 r1 r2 r3 r4
  go_wp2
  refine bodyPost_ret (by simp [results, Tryd.results75, go_sem, t0, t1, t2, t3, t4]; try rfl) rfl ?_
  exact ⟨rfl, below_five hE (by omega) _ _ _ _ _⟩

end Go.Proofs.YtpbcfgehmalppaaDoor
