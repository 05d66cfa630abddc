/- The law's own envelope: whether it fits, and the one that two corners stand for. -/
import Derived.Test.YtpbcfgehmalppaaDoorEsB
namespace Go.Proofs.YtpbcfgehmalppaaDoor
open Go.RowKit

attribute [local go_sem] run_store_float

theorem eFinite_any (a b c d : Nat) (ha : a < 18446744073709551616) (hb : b < 18446744073709551616) (hc : c < 18446744073709551616) (hd : d < 18446744073709551616) (w : World) :
    Calls Tryd.prog 39 #[.agg #[.float .f64 a, .float .f64 b, .float .f64 c, .float .f64 d]] w fun e w' => ∃ r, e = .returned (.bool r) ∧ (r = true → Fin64 a ∧ Fin64 b ∧ Fin64 c ∧ Fin64 d) ∧ Below w.heap.size w w' := by
  go_enter Tryd.func39, Tryd.ntmps39
  have hb1 : Below w.heap.size w (w.alloc (.cells #[.float .f64 a, .float .f64 b, .float .f64 c, .float .f64 d] 44)) := (Below.refl _ _).alloc (Nat.le_refl _) _
  go_wp2_with fail
  refine (gFinite_any a ha _).mono ?_
  rintro e w1 ⟨r, rfl, ha', rfl⟩
  cases r
  · go_wp2
    go_ret
    exact ⟨_, rfl, (fun h => by cases h), hb1⟩
  go_wp2_with fail
  refine (gFinite_any b hb _).mono ?_
  rintro e w1 ⟨r, rfl, hb', rfl⟩
  cases r
  · go_wp2
    go_ret
    exact ⟨_, rfl, (fun h => by cases h), hb1⟩
  go_wp2_with fail
  refine (gFinite_any c hc _).mono ?_
  rintro e w1 ⟨r, rfl, hc', rfl⟩
  cases r
  · go_wp2
    go_ret
    exact ⟨_, rfl, (fun h => by cases h), hb1⟩
  go_wp2_with fail
  refine (gFinite_any d hd _).mono ?_
  rintro e w1 ⟨r, rfl, hd', rfl⟩
  cases r
  · go_wp2
    go_ret
    exact ⟨_, rfl, (fun h => by cases h), hb1⟩
  go_wp2
  go_ret
  exact ⟨_, rfl, (fun _ => ⟨by simpa using ha', by simpa using hb', by simpa using hc', by simpa using hd'⟩), hb1⟩

theorem eFits_any (f : Bool) (a b c d : Nat) (ha : a < 18446744073709551616) (hb : b < 18446744073709551616) (hc : c < 18446744073709551616) (hd : d < 18446744073709551616) (g : Nat) (w : World)
    (hg : Blk w g 46 #[.bool f, .float .f64 a, .float .f64 b, .float .f64 c, .float .f64 d]) :
    Calls Tryd.prog 18 #[.slice (some ⟨g, 0, none⟩) 1 1] w fun e w' => ∃ r, e = .returned (.bool r) ∧ (r = true → f = true → Fin64 a ∧ Fin64 b ∧ Fin64 c ∧ Fin64 d) ∧ Below w.heap.size w w' := by
  have c0 : w.cell? ⟨g, 0, none⟩ = some (.bool f) := hg.cell 0
  have c1 : w.cell? ⟨g, 1, none⟩ = some (.float .f64 a) := hg.cell 1
  have c2 : w.cell? ⟨g, 2, none⟩ = some (.float .f64 b) := hg.cell 2
  have c3 : w.cell? ⟨g, 3, none⟩ = some (.float .f64 c) := hg.cell 3
  have c4 : w.cell? ⟨g, 4, none⟩ = some (.float .f64 d) := hg.cell 4
  cases f
  · go_enter Tryd.func18, Tryd.ntmps18
    go_wp2
    refine wp_loop_rounds 2 ?_
    rw [rounds_succ]
    go_wp2
    rw [rounds_succ]
    go_wp2
    go_ret
    exact ⟨_, rfl, (fun _ h => by cases h), (Below.refl _ _).alloc (Nat.le_refl _) _⟩
  · have hb1 : Below w.heap.size w (w.alloc (.cells #[.bool true, .float .f64 a, .float .f64 b, .float .f64 c, .float .f64 d] 46)) := (Below.refl _ _).alloc (Nat.le_refl _) _
    go_enter Tryd.func18, Tryd.ntmps18
    go_wp2
    refine wp_loop_rounds 2 ?_
    rw [rounds_succ]
    go_wp2_with fail
    refine (eFinite_any a b c d ha hb hc hd _).mono ?_
    rintro e w1 ⟨r, rfl, hr, h1⟩
    cases r
    · go_wp2
      go_ret
      exact ⟨_, rfl, (fun h => by cases h), hb1.trans (h1.mono (by simp))⟩
    · go_wp2
      rw [rounds_succ]
      go_wp2
      go_ret
      exact ⟨_, rfl, (fun _ _ => by simpa using hr), hb1.trans (h1.mono (by simp))⟩

theorem eCorners_full (a b c d : Nat) (w : World) : Calls Tryd.prog 42 #[.agg #[.bool true, .float .f64 a, .float .f64 b, .float .f64 c, .float .f64 d]] w fun e w' => ∃ g, e = .returned (.slice (some ⟨g, 0, none⟩) 2 2) ∧ w.heap.size ≤ g ∧ Blk w' g 105 #[.float .f64 a, .float .f64 b, .float .f64 c, .float .f64 d] ∧ Below w.heap.size w w' := by
  go_enter Tryd.func42, Tryd.ntmps42
  go_wp2
  go_ret
  have hb1 : Below w.heap.size w (w.alloc (.cells #[.bool true, .float .f64 a, .float .f64 b, .float .f64 c, .float .f64 d] 46)) := (Below.refl _ _).alloc (Nat.le_refl _) _
  have hk := Blk.new (w.alloc (.cells #[.bool true, .float .f64 a, .float .f64 b, .float .f64 c, .float .f64 d] 46)) 105 #[.float .f64 a, .float .f64 b, .float .f64 c, .float .f64 d]
  rw [World.size_alloc] at hk
  exact ⟨_, rfl, by omega, hk, hb1.alloc (by simp) _⟩
theorem eCorners_not (a b c d : Nat) (w : World) : Calls Tryd.prog 42 #[.agg #[.bool false, .float .f64 a, .float .f64 b, .float .f64 c, .float .f64 d]] w fun e w' => e = .returned (.slice none 0 0) ∧ Below w.heap.size w w' := by
  go_enter Tryd.func42, Tryd.ntmps42
  go_wp2
  go_ret
  exact ⟨rfl, (Below.refl _ _).alloc (Nat.le_refl _) _⟩


theorem eOf_nil (w : World) : Calls Tryd.prog 41 #[.slice none 0 0] w fun e w' => e = .returned (.agg #[.bool false, .float .f64 0, .float .f64 0, .float .f64 0, .float .f64 0]) ∧ Below w.heap.size w w' := by
  go_enter Tryd.func41, Tryd.ntmps41
  go_wp2
  refine wp_loop_rounds 1 ?_
  rw [rounds_succ]
  go_wp2
  go_returns
  exact ⟨rfl, by go_grown⟩

set_option maxHeartbeats 8000000 in
set_option maxRecDepth 100000 in
theorem eOf_two (a b c d : Nat) (ha : Fin64 a) (hb : Fin64 b) (hc : Fin64 c) (hd : Fin64 d) (g : Nat) (w : World) (hg : Blk w g 105 #[.float .f64 a, .float .f64 b, .float .f64 c, .float .f64 d]) :
    Calls Tryd.prog 41 #[.slice (some ⟨g, 0, none⟩) 2 2] w fun e w' => e = .returned (.agg #[.bool true, .float .f64 (fMin a c), .float .f64 (fMin b d), .float .f64 (fMax a c), .float .f64 (fMax b d)]) ∧ Below w.heap.size w w' := by
  have c0 : w.cell? ⟨g, 0, none⟩ = some (.float .f64 a) := hg.cell 0
  have c1 : w.cell? ⟨g, 1, none⟩ = some (.float .f64 b) := hg.cell 1
  have c2 : w.cell? ⟨g, 2, none⟩ = some (.float .f64 c) := hg.cell 2
  have c3 : w.cell? ⟨g, 3, none⟩ = some (.float .f64 d) := hg.cell 3
  have hgl := hg.lt
  have q1 : (FloatKind.f64.format.order c a == some Ordering.lt) = decide (fV c < fV a) := flt_fin hc ha
  have q2 : (FloatKind.f64.format.order c a == some Ordering.gt) = decide (fV a < fV c) := fgt_fin hc ha
  have q3 : (FloatKind.f64.format.order d b == some Ordering.lt) = decide (fV d < fV b) := flt_fin hd hb
  have q4 : (FloatKind.f64.format.order d b == some Ordering.gt) = decide (fV b < fV d) := fgt_fin hd hb
  have e2 : ∀ o1 o2 o3 : Obj, (((w.alloc o1).alloc o2).alloc o3).cell? ⟨g, 2, none⟩ = some (.float .f64 c) := fun o1 o2 o3 => by
    rw [World.cell?_alloc_lt _ _ _ (by simp; omega), World.cell?_alloc_lt _ _ _ (by simp; omega), World.cell?_alloc_lt _ _ _ hgl, c2]
  have e3 : ∀ o1 o2 o3 : Obj, (((w.alloc o1).alloc o2).alloc o3).cell? ⟨g, 3, none⟩ = some (.float .f64 d) := fun o1 o2 o3 => by
    rw [World.cell?_alloc_lt _ _ _ (by simp; omega), World.cell?_alloc_lt _ _ _ (by simp; omega), World.cell?_alloc_lt _ _ _ hgl, c3]
  have n0 : g ≠ w.heap.size := by omega
  have n1 : g ≠ w.heap.size + 1 := by omega
  have n2 : g ≠ w.heap.size + 1 + 1 := by omega
  have m0 : w.heap.size ≠ g := by omega
  have m1 : w.heap.size + 1 ≠ g := by omega
  have m2 : w.heap.size + 1 + 1 ≠ g := by omega
  unfold fMin fMax
  by_cases h1 : fV c < fV a <;> by_cases h2 : fV a < fV c <;> by_cases h3 : fV d < fV b <;> by_cases h4 : fV b < fV d <;> simp only [h1, h2, h3, h4, decide_true, decide_false, if_true, if_false] at q1 q2 q3 q4 ⊢
  all_goals first
    | (exfalso; omega)
    | (go_enter Tryd.func41, Tryd.ntmps41
       go_wp2
       refine wp_loop_rounds 3 ?_
       rw [rounds_succ]
       go_wp2
       rw [rounds_succ]
       go_wp2
       rw [rounds_succ]
       go_wp2
       go_returns
       exact ⟨rfl, by go_grown⟩)

end Go.Proofs.YtpbcfgehmalppaaDoor
