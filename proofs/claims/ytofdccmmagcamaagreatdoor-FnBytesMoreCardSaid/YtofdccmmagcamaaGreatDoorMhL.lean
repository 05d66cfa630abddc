import Derived.Test.YtofdccmmagcamaaGreatDoorMhK
import Derived.Test.YtofdccmmagcamaaGreatDoorMhC
/- Points: as trees, brought to a type, their texts, made of plain data. -/
set_option maxHeartbeats 8000000
set_option linter.unusedSimpArgs false
set_option linter.unusedVariables false
namespace Go.Proofs.YtofdccmmagcamaaGreatDoor
open Go.RowKit

attribute [local go_sem] run_store_float

/-- The cells cs read as the point t. -/
def PtG (_ : World) (_ : Nat → Prop) (cs : List Value) (t : Gm) : Prop :=
  ∃ (x y z m : Nat) (q : Int) (f : Bool), cs = [.float .f64 x, .float .f64 y, .float .f64 z, .float .f64 m, .int .u8 q, .bool f] ∧ 0 ≤ q ∧ q ≤ 3 ∧ (x < 18446744073709551616 ∧ y < 18446744073709551616 ∧ z < 18446744073709551616 ∧ m < 18446744073709551616) ∧ t = .mk 1 q (if f = true then plNums q (x, y, z, m) else []) []
theorem PtG.any {w w' : World} {ok ok' : Nat → Prop} {c : List Value} {t : Gm} (h : PtG w ok c t) : PtG w' ok' c t := h
theorem PtG.keeps : Keeps PtG := fun _ _ _ _ _ _ h _ _ => h
theorem PtG.shape {w : World} {ok : Nat → Prop} {c : List Value} {t : Gm} (h : PtG w ok c t) : ∃ (x y z m : Nat) (q : Int) (f : Bool), c = [.float .f64 x, .float .f64 y, .float .f64 z, .float .f64 m, .int .u8 q, .bool f] ∧ t.d = q ∧ 0 ≤ q ∧ q ≤ 3 := by
  obtain ⟨x, y, z, m, q, f, rfl, h0, h1, -, rfl⟩ := h
  exact ⟨x, y, z, m, q, f, rfl, rfl, h0, h1⟩
theorem plNums_bits {q : Int} {x y z m : Nat} (h : x < 18446744073709551616 ∧ y < 18446744073709551616 ∧ z < 18446744073709551616 ∧ m < 18446744073709551616) : ∀ b ∈ plNums q (x, y, z, m), b < 18446744073709551616 := by
  intro b hb
  unfold plNums at hb
  simp only [List.mem_append, List.mem_cons, List.not_mem_nil, or_false] at hb
  rcases hb with (rfl | rfl) | hb | hb
  · exact h.1
  · exact h.2.1
  · split at hb <;> simp at hb; subst hb; exact h.2.2.1
  · split at hb <;> simp at hb; subst hb; exact h.2.2.2
set_option maxRecDepth 100000 in
theorem PtCT_G {ok : Nat → Prop} {x y z m : Nat} {q : Int} {f : Bool} {t : Gm} (W : World) (h : PtG W ok [.float .f64 x, .float .f64 y, .float .f64 z, .float .f64 m, .int .u8 q, .bool f] t) :
    Calls Tryz.prog 94 #[.agg #[.float .f64 x, .float .f64 y, .float .f64 z, .float .f64 m, .int .u8 q, .bool f]] W fun e w' => e = .returned (.int .u8 t.d) ∧ Below W.heap.size W w' := by
  obtain ⟨_, _, _, _, q', _, e, hd, -⟩ := h.shape
  simp only [List.cons.injEq, Value.int.injEq, and_true, true_and] at e
  rw [hd, ← e.2.2.2.2.1]
  clear hd e h
  go_enter Tryz.func94, Tryz.ntmps94
  go_wp2
  go_ret
  exact ⟨rfl, (Below.refl _ _).alloc (Nat.le_refl _) _⟩

theorem ptN_plNums (q : Int) (q0 : 0 ≤ q) (q1 : q ≤ 3) (p : Pl) : plNums q (ptN q (plNums q p) 0) = plNums q p := by
  have h : q = 0 ∨ q = 1 ∨ q = 2 ∨ q = 3 := by omega
  rcases h with rfl | rfl | rfl | rfl <;> rfl
theorem force_pt (Q q : Int) (Q0 : 0 ≤ Q) (Q1 : Q ≤ 3) (q0 : 0 ≤ q) (q1 : q ≤ 3) (x y z m z' m' : Nat) (hz : Q % 2 = 1 → z' = if q % 2 = 1 then z else 0) (hm : Q / 2 % 2 = 1 → m' = if q / 2 % 2 = 1 then m else 0) :
    forceT Q (.mk 1 q (plNums q (x, y, z, m)) []) = .mk 1 Q (plNums Q (x, y, z', m')) [] := by
  rw [forceT_mk, plNums_wd' q q0 q1, Nat.div_self (by have := wd_pos q; omega)]
  congr 1
  have e : plsNums Q (ptsN q (plNums q (x, y, z, m)) 1) = plNums Q (ptN q (plNums q (x, y, z, m)) 0) := by simp [plsNums, ptsN]
  rw [e]
  have h : q = 0 ∨ q = 1 ∨ q = 2 ∨ q = 3 := by omega
  have h' : Q = 0 ∨ Q = 1 ∨ Q = 2 ∨ Q = 3 := by omega
  rcases h with rfl | rfl | rfl | rfl <;> rcases h' with rfl | rfl | rfl | rfl <;> simp [plNums, ptN, wd] at hz hm ⊢ <;> simp [hz, hm]

theorem is3D_cases (q : Int) (q0 : 0 ≤ q) (q1 : q ≤ 3) : ∃ b : Bool, (b = true ↔ q % 2 = 1) ∧ ((q = 0 ∧ b = false) ∨ (q = 1 ∧ b = true) ∨ (q = 2 ∧ b = false) ∨ (q = 3 ∧ b = true)) := by
  have h : q = 0 ∨ q = 1 ∨ q = 2 ∨ q = 3 := by omega
  rcases h with rfl | rfl | rfl | rfl
  · exact ⟨false, by simp, by simp⟩
  · exact ⟨true, by simp, by simp⟩
  · exact ⟨false, by simp, by simp⟩
  · exact ⟨true, by simp, by simp⟩
theorem isM_cases (q : Int) (q0 : 0 ≤ q) (q1 : q ≤ 3) : ∃ b : Bool, (b = true ↔ q / 2 % 2 = 1) ∧ ((q = 0 ∧ b = false) ∨ (q = 1 ∧ b = false) ∨ (q = 2 ∧ b = true) ∨ (q = 3 ∧ b = true)) := by
  have h : q = 0 ∨ q = 1 ∨ q = 2 ∨ q = 3 := by omega
  rcases h with rfl | rfl | rfl | rfl
  · exact ⟨false, by simp, by simp⟩
  · exact ⟨false, by simp, by simp⟩
  · exact ⟨true, by simp, by simp⟩
  · exact ⟨true, by simp, by simp⟩

set_option maxRecDepth 100000 in
theorem PtForce_tt (Q q : Int) (x y z m : Nat) (b3 b3' bM bM' : Bool) (h3 : ∀ w, Calls Tryz.prog 153 #[.int .u8 Q] w fun e w' => e = .returned (.bool b3) ∧ w' = w) (h3' : ∀ w, Calls Tryz.prog 153 #[.int .u8 q] w fun e w' => e = .returned (.bool b3') ∧ w' = w)
    (hM : ∀ w, Calls Tryz.prog 154 #[.int .u8 Q] w fun e w' => e = .returned (.bool bM) ∧ w' = w) (hM' : ∀ w, Calls Tryz.prog 154 #[.int .u8 q] w fun e w' => e = .returned (.bool bM') ∧ w' = w)
    (he3 : (b3 == b3') = true) (heM : (bM == bM') = true) (W : World) :
    Calls Tryz.prog 209 #[.agg #[.float .f64 x, .float .f64 y, .float .f64 z, .float .f64 m, .int .u8 q, .bool true], .int .u8 Q] W fun e w' => e = .returned (.agg #[.float .f64 x, .float .f64 y, .float .f64 z, .float .f64 m, .int .u8 Q, .bool true]) ∧ Below W.heap.size W w' := by
  have hbase : Below W.heap.size W ((W.alloc (.cells #[.float .f64 x, .float .f64 y, .float .f64 z, .float .f64 m, .int .u8 q, .bool true] 109)).alloc (.cells #[.float .f64 0, .float .f64 0, .float .f64 0, .float .f64 0, .int .u8 0, .bool false] 109)) := ((Below.refl W.heap.size W).alloc (Nat.le_refl _) _).alloc (by simp) _
  have HBASE := Hd hbase
  clear hbase
  have HA := Hd h3
  have HB := Hd h3'
  have HC := Hd hM
  have HD := Hd hM'
  clear h3 h3' hM hM'
  go_enter Tryz.func209, Tryz.ntmps209
  go_wp2
  go_quiet ((go_at_call 153; first | with_reducible exact Calls.quiet_of_same (HA.out _) | with_reducible exact Calls.quiet_of_same (HB.out _)))
  go_wp2
  go_quiet ((go_at_call 154; first | with_reducible exact quiet_add_same (HC.out _) | with_reducible exact quiet_add_same (HD.out _)))
  go_wp2
  go_returns
  refine ⟨rfl, ?_⟩
  repeat (first | with_reducible exact HBASE.out | with_reducible refine below_drewN ?_ _ | with_reducible refine below_setCell' ?_ ?_ _)
  all_goals (first | exact Nat.le_refl _ | exact Nat.le_succ _)

set_option maxRecDepth 100000 in
theorem PtForce_tf (Q q : Int) (x y z m : Nat) (b3 b3' bM bM' : Bool) (h3 : ∀ w, Calls Tryz.prog 153 #[.int .u8 Q] w fun e w' => e = .returned (.bool b3) ∧ w' = w) (h3' : ∀ w, Calls Tryz.prog 153 #[.int .u8 q] w fun e w' => e = .returned (.bool b3') ∧ w' = w)
    (hM : ∀ w, Calls Tryz.prog 154 #[.int .u8 Q] w fun e w' => e = .returned (.bool bM) ∧ w' = w) (hM' : ∀ w, Calls Tryz.prog 154 #[.int .u8 q] w fun e w' => e = .returned (.bool bM') ∧ w' = w)
    (he3 : (b3 == b3') = true) (heM : (bM == bM') = false) (W : World) :
    Calls Tryz.prog 209 #[.agg #[.float .f64 x, .float .f64 y, .float .f64 z, .float .f64 m, .int .u8 q, .bool true], .int .u8 Q] W fun e w' => e = .returned (.agg #[.float .f64 x, .float .f64 y, .float .f64 z, .float .f64 0, .int .u8 Q, .bool true]) ∧ Below W.heap.size W w' := by
  have hbase : Below W.heap.size W ((W.alloc (.cells #[.float .f64 x, .float .f64 y, .float .f64 z, .float .f64 m, .int .u8 q, .bool true] 109)).alloc (.cells #[.float .f64 0, .float .f64 0, .float .f64 0, .float .f64 0, .int .u8 0, .bool false] 109)) := ((Below.refl W.heap.size W).alloc (Nat.le_refl _) _).alloc (by simp) _
  have HBASE := Hd hbase
  clear hbase
  have HA := Hd h3
  have HB := Hd h3'
  have HC := Hd hM
  have HD := Hd hM'
  clear h3 h3' hM hM'
  go_enter Tryz.func209, Tryz.ntmps209
  go_wp2
  go_quiet ((go_at_call 153; first | with_reducible exact Calls.quiet_of_same (HA.out _) | with_reducible exact Calls.quiet_of_same (HB.out _)))
  go_wp2
  go_quiet ((go_at_call 154; first | with_reducible exact quiet_add_same (HC.out _) | with_reducible exact quiet_add_same (HD.out _)))
  go_wp2
  go_returns
  refine ⟨rfl, ?_⟩
  repeat (first | with_reducible exact HBASE.out | with_reducible refine below_drewN ?_ _ | with_reducible refine below_setCell' ?_ ?_ _)
  all_goals (first | exact Nat.le_refl _ | exact Nat.le_succ _)

set_option maxRecDepth 100000 in
theorem PtForce_ft (Q q : Int) (x y z m : Nat) (b3 b3' bM bM' : Bool) (h3 : ∀ w, Calls Tryz.prog 153 #[.int .u8 Q] w fun e w' => e = .returned (.bool b3) ∧ w' = w) (h3' : ∀ w, Calls Tryz.prog 153 #[.int .u8 q] w fun e w' => e = .returned (.bool b3') ∧ w' = w)
    (hM : ∀ w, Calls Tryz.prog 154 #[.int .u8 Q] w fun e w' => e = .returned (.bool bM) ∧ w' = w) (hM' : ∀ w, Calls Tryz.prog 154 #[.int .u8 q] w fun e w' => e = .returned (.bool bM') ∧ w' = w)
    (he3 : (b3 == b3') = false) (heM : (bM == bM') = true) (W : World) :
    Calls Tryz.prog 209 #[.agg #[.float .f64 x, .float .f64 y, .float .f64 z, .float .f64 m, .int .u8 q, .bool true], .int .u8 Q] W fun e w' => e = .returned (.agg #[.float .f64 x, .float .f64 y, .float .f64 0, .float .f64 m, .int .u8 Q, .bool true]) ∧ Below W.heap.size W w' := by
  have hbase : Below W.heap.size W ((W.alloc (.cells #[.float .f64 x, .float .f64 y, .float .f64 z, .float .f64 m, .int .u8 q, .bool true] 109)).alloc (.cells #[.float .f64 0, .float .f64 0, .float .f64 0, .float .f64 0, .int .u8 0, .bool false] 109)) := ((Below.refl W.heap.size W).alloc (Nat.le_refl _) _).alloc (by simp) _
  have HBASE := Hd hbase
  clear hbase
  have HA := Hd h3
  have HB := Hd h3'
  have HC := Hd hM
  have HD := Hd hM'
  clear h3 h3' hM hM'
  go_enter Tryz.func209, Tryz.ntmps209
  go_wp2
  go_quiet ((go_at_call 153; first | with_reducible exact Calls.quiet_of_same (HA.out _) | with_reducible exact Calls.quiet_of_same (HB.out _)))
  go_wp2
  go_quiet ((go_at_call 154; first | with_reducible exact Calls.quiet_of_same (HC.out _) | with_reducible exact Calls.quiet_of_same (HD.out _)))
  go_wp2
  go_returns
  refine ⟨rfl, ?_⟩
  repeat (first | with_reducible exact HBASE.out | with_reducible refine below_drewN ?_ _ | with_reducible refine below_setCell' ?_ ?_ _)
  all_goals (first | exact Nat.le_refl _ | exact Nat.le_succ _)

set_option maxRecDepth 100000 in
theorem PtForce_ff (Q q : Int) (x y z m : Nat) (b3 b3' bM bM' : Bool) (h3 : ∀ w, Calls Tryz.prog 153 #[.int .u8 Q] w fun e w' => e = .returned (.bool b3) ∧ w' = w) (h3' : ∀ w, Calls Tryz.prog 153 #[.int .u8 q] w fun e w' => e = .returned (.bool b3') ∧ w' = w)
    (hM : ∀ w, Calls Tryz.prog 154 #[.int .u8 Q] w fun e w' => e = .returned (.bool bM) ∧ w' = w) (hM' : ∀ w, Calls Tryz.prog 154 #[.int .u8 q] w fun e w' => e = .returned (.bool bM') ∧ w' = w)
    (he3 : (b3 == b3') = false) (heM : (bM == bM') = false) (W : World) :
    Calls Tryz.prog 209 #[.agg #[.float .f64 x, .float .f64 y, .float .f64 z, .float .f64 m, .int .u8 q, .bool true], .int .u8 Q] W fun e w' => e = .returned (.agg #[.float .f64 x, .float .f64 y, .float .f64 0, .float .f64 0, .int .u8 Q, .bool true]) ∧ Below W.heap.size W w' := by
  have hbase : Below W.heap.size W ((W.alloc (.cells #[.float .f64 x, .float .f64 y, .float .f64 z, .float .f64 m, .int .u8 q, .bool true] 109)).alloc (.cells #[.float .f64 0, .float .f64 0, .float .f64 0, .float .f64 0, .int .u8 0, .bool false] 109)) := ((Below.refl W.heap.size W).alloc (Nat.le_refl _) _).alloc (by simp) _
  have HBASE := Hd hbase
  clear hbase
  have HA := Hd h3
  have HB := Hd h3'
  have HC := Hd hM
  have HD := Hd hM'
  clear h3 h3' hM hM'
  go_enter Tryz.func209, Tryz.ntmps209
  go_wp2
  go_quiet ((go_at_call 153; first | with_reducible exact Calls.quiet_of_same (HA.out _) | with_reducible exact Calls.quiet_of_same (HB.out _)))
  go_wp2
  go_quiet ((go_at_call 154; first | with_reducible exact Calls.quiet_of_same (HC.out _) | with_reducible exact Calls.quiet_of_same (HD.out _)))
  go_wp2
  go_returns
  refine ⟨rfl, ?_⟩
  repeat (first | with_reducible exact HBASE.out | with_reducible refine below_drewN ?_ _ | with_reducible refine below_setCell' ?_ ?_ _)
  all_goals (first | exact Nat.le_refl _ | exact Nat.le_succ _)

theorem PtForce_full (Q q : Int) (x y z m : Nat) (b3 b3' bM bM' a3 aM : Bool) (h3 : ∀ w, Calls Tryz.prog 153 #[.int .u8 Q] w fun e w' => e = .returned (.bool b3) ∧ w' = w) (h3' : ∀ w, Calls Tryz.prog 153 #[.int .u8 q] w fun e w' => e = .returned (.bool b3') ∧ w' = w)
    (hM : ∀ w, Calls Tryz.prog 154 #[.int .u8 Q] w fun e w' => e = .returned (.bool bM) ∧ w' = w) (hM' : ∀ w, Calls Tryz.prog 154 #[.int .u8 q] w fun e w' => e = .returned (.bool bM') ∧ w' = w)
    (he3 : (b3 == b3') = a3) (heM : (bM == bM') = aM) (W : World) :
    Calls Tryz.prog 209 #[.agg #[.float .f64 x, .float .f64 y, .float .f64 z, .float .f64 m, .int .u8 q, .bool true], .int .u8 Q] W fun e w' => e = .returned (.agg #[.float .f64 x, .float .f64 y, .float .f64 (if a3 = true then z else 0), .float .f64 (if aM = true then m else 0), .int .u8 Q, .bool true]) ∧ Below W.heap.size W w' := by
  cases a3 <;> cases aM
  · exact PtForce_ff Q q x y z m b3 b3' bM bM' h3 h3' hM hM' he3 heM W
  · exact PtForce_ft Q q x y z m b3 b3' bM bM' h3 h3' hM hM' he3 heM W
  · exact PtForce_tf Q q x y z m b3 b3' bM bM' h3 h3' hM hM' he3 heM W
  · exact PtForce_tt Q q x y z m b3 b3' bM bM' h3 h3' hM hM' he3 heM W

set_option maxRecDepth 100000 in
theorem PtForce_none (Q q : Int) (x y z m : Nat) (W : World) :
    Calls Tryz.prog 209 #[.agg #[.float .f64 x, .float .f64 y, .float .f64 z, .float .f64 m, .int .u8 q, .bool false], .int .u8 Q] W fun e w' => e = .returned (.agg #[.float .f64 0, .float .f64 0, .float .f64 0, .float .f64 0, .int .u8 Q, .bool false]) ∧ Below W.heap.size W w' := by
  go_enter Tryz.func209, Tryz.ntmps209
  go_wp2_with fail
  have hb1 : Below W.heap.size W ((W.alloc (.cells #[.float .f64 x, .float .f64 y, .float .f64 z, .float .f64 m, .int .u8 q, .bool false] 109)).alloc (.cells #[.float .f64 0, .float .f64 0, .float .f64 0, .float .f64 0, .int .u8 0, .bool false] 109)) := ((Below.refl _ _).alloc (Nat.le_refl _) _).alloc (by simp) _
  have hx := Blk.new (W.alloc (.cells #[.float .f64 x, .float .f64 y, .float .f64 z, .float .f64 m, .int .u8 q, .bool false] 109)) 109 #[.float .f64 0, .float .f64 0, .float .f64 0, .float .f64 0, .int .u8 0, .bool false]
  have HX := Hd hx
  have HB1 := Hd hb1
  clear hx hb1
  refine (NewEmptyPoint_any Q _).mono ?_
  rintro e w1 ⟨rfl, b1⟩
  have x1 := HX.out.below b1 (by simp)
  rw [World.size_alloc] at x1
  obtain ⟨c0, c1, c2, c3, c4, c5⟩ := six_cells x1 (.float .f64 0) (.float .f64 0) (.float .f64 0) (.float .f64 0) (.int .u8 Q) (.bool false)
  have z0 := x1.frozen 0
  have z1 := x1.frozen 1
  have z2 := x1.frozen 2
  have z3 := x1.frozen 3
  have z4 := x1.frozen 4
  have z5 := x1.frozen 5
  have y0 := x1.cell 0
  have y1 := x1.cell 1
  have y2 := x1.cell 2
  have y3 := x1.cell 3
  have y4 := x1.cell 4
  have y5 := x1.cell 5
  simp at y0 y1 y2 y3 y4 y5
  have HB2 := Hd (HB1.out.trans (b1.mono HB1.out.size))
  clear b1 x1
  go_wp2
  refine bodyPost_ret (by simp [results, Tryz.results209, go_sem, c0, c1, c2, c3, c4, c5]; try rfl) rfl ?_
  exact ⟨rfl, below_setCell' (below_setCell' (below_setCell' (below_setCell' (below_setCell' (below_setCell' HB2.out (Nat.le_succ _) _) (Nat.le_succ _) _) (Nat.le_succ _) _) (Nat.le_succ _) _) (Nat.le_succ _) _) (Nat.le_succ _) _⟩

theorem PtForce_G (Q : Int) (Q0 : 0 ≤ Q) (Q1 : Q ≤ 3) {ok : Nat → Prop} {x y z m : Nat} {q : Int} {f : Bool} {t : Gm} (W : World) (h : PtG W ok [.float .f64 x, .float .f64 y, .float .f64 z, .float .f64 m, .int .u8 q, .bool f] t) (_ : OkT t) :
    Calls Tryz.prog 209 #[.agg #[.float .f64 x, .float .f64 y, .float .f64 z, .float .f64 m, .int .u8 q, .bool f], .int .u8 Q] W fun e w' => ∃ (x' y' z' m' : Nat) (q' : Int) (f' : Bool), e = .returned (.agg #[.float .f64 x', .float .f64 y', .float .f64 z', .float .f64 m', .int .u8 q', .bool f']) ∧ PtG w' (fun b => ok b ∨ W.heap.size ≤ b) [.float .f64 x', .float .f64 y', .float .f64 z', .float .f64 m', .int .u8 q', .bool f'] (forceT Q t) ∧ Below W.heap.size W w' := by
  obtain ⟨x1, y1, z1, m1, q1', f1, e, q0, q1, hb, rfl⟩ := h
  simp only [List.cons.injEq, Value.float.injEq, Value.int.injEq, Value.bool.injEq, and_true, true_and] at e
  obtain ⟨rfl, rfl, rfl, rfl, rfl, rfl⟩ := e
  cases f
  · refine (PtForce_none Q q x y z m W).mono ?_
    rintro e w' ⟨rfl, hbl⟩
    refine ⟨0, 0, 0, 0, Q, false, rfl, ⟨0, 0, 0, 0, Q, false, rfl, Q0, Q1, by decide, ?_⟩, hbl⟩
    rw [forceT_mk]
    simp [plsNums, ptsN]
  · obtain ⟨b3, hb3, c3⟩ := is3D_cases Q Q0 Q1
    obtain ⟨b3', hb3', c3'⟩ := is3D_cases q q0 q1
    obtain ⟨bM, hbM, cM⟩ := isM_cases Q Q0 Q1
    obtain ⟨bM', hbM', cM'⟩ := isM_cases q q0 q1
    refine (PtForce_full Q q x y z m b3 b3' bM bM' (b3 == b3') (bM == bM') (is3D_any Q b3 c3) (is3D_any q b3' c3') (isM_any Q bM cM) (isM_any q bM' cM') rfl rfl W).mono ?_
    rintro e w' ⟨rfl, hbl⟩
    refine ⟨x, y, _, _, Q, true, rfl, ⟨x, y, _, _, Q, true, rfl, Q0, Q1, ⟨hb.1, hb.2.1, ?_, ?_⟩, ?_⟩, hbl⟩
    · split
      · exact hb.2.2.1
      · decide
    · split
      · exact hb.2.2.2
      · decide
    · rw [if_pos rfl, if_pos rfl]
      refine force_pt Q q Q0 Q1 q0 q1 x y z m _ _ (fun h => ?_) (fun h => ?_)
      · have e1 := hb3.2 h
        subst e1
        cases b3'
        · rw [if_neg (by decide), if_neg (fun h => by have := hb3'.2 h; cases this)]
        · rw [if_pos (by decide), if_pos (hb3'.1 rfl)]
      · have e1 := hbM.2 h
        subst e1
        cases bM'
        · rw [if_neg (by decide), if_neg (fun h => by have := hbM'.2 h; cases this)]
        · rw [if_pos (by decide), if_pos (hbM'.1 rfl)]

end Go.Proofs.YtofdccmmagcamaaGreatDoor

/- Rows of points brought to a type; several points: brought to a type, made of points. -/
set_option maxHeartbeats 8000000
set_option linter.unusedSimpArgs false
set_option linter.unusedVariables false
namespace Go.Proofs.YtofdccmmagcamaaGreatDoor
open Go.RowKit Go.Proofs.YtofdccmmagcamaaGreatDoorW.PrintLast

attribute [local go_sem] run_store_float

abbrev MpG := RowG PtG 109 6 4
theorem MpG.keeps : Keeps MpG := RowG.keeps PtG.keeps _ _ _
theorem info_pt : (Tryz.prog.info? 109).map (fun i => (i.zero, i.size, i.bytes)) = some (some (.agg #[.float .f64 0, .float .f64 0, .float .f64 0, .float .f64 0, .int .u8 0, .bool false]), 6, 48) := by kernel_rfl
theorem list6 {x : List Value} (h : x.length = 6) : ∃ a b c d e f, x = [a, b, c, d, e, f] := by
  match x, h with
  | [a, b, c, d, e, f], _ => exact ⟨a, b, c, d, e, f, rfl⟩
theorem flat_set6 {a b c d e f : Value} : ∀ {css : List (List Value)} {k : Nat}, (∀ x ∈ css, x.length = 6) → k < css.length → (css.set k [a, b, c, d, e, f]).flatten = (((((css.flatten.set (k * 6) a).set (k * 6 + 1) b).set (k * 6 + 2) c).set (k * 6 + 3) d).set (k * 6 + 4) e).set (k * 6 + 5) f
  | [], _, _, h => by simp at h
  | x :: css, 0, el, _ => by
    have hx := el x (List.mem_cons_self ..)
    obtain ⟨u, v, u', v', u'', v'', rfl⟩ := list6 hx
    rfl
  | x :: css, k + 1, el, h => by
    have hx := el x (List.mem_cons_self ..)
    have ih := flat_set6 (a := a) (b := b) (c := c) (d := d) (e := e) (f := f) (css := css) (k := k) (fun y hy => el y (List.mem_cons_of_mem _ hy)) (by simpa using h)
    obtain ⟨u, v, u', v', u'', v'', rfl⟩ := list6 hx
    rw [List.set_cons_succ, List.flatten_cons, List.flatten_cons, ih, show (k + 1) * 6 = k * 6 + 1 + 1 + 1 + 1 + 1 + 1 by omega]
    rfl

set_option maxRecDepth 100000 in
theorem PtSlice_G (Q : Int) (Q0 : 0 ≤ Q) (Q1 : Q ≤ 3) {ok : Nat → Prop} {A : Option Addr} {n c : Nat} {ts : List Gm} (W : World) (h : KRow PtG 109 6 W ok (.slice A n c) ts) (hrl : ts.length = n) (hok : ∀ t ∈ ts, OkT t) (hn : n ≤ 100000) :
    Calls Tryz.prog 171 #[.slice A n c, .int .u8 Q] W fun e w' => ∃ (A' : Option Addr) (c' : Nat), e = .returned (.slice A' n c') ∧ KRow PtG 109 6 w' (fun b => W.heap.size ≤ b) (.slice A' n c') (ts.map (forceT Q)) ∧ Below W.heap.size W w' := by
  obtain ⟨i0, hi0, hz0, hz1, hz2⟩ := info_parts info_pt
  have hmk : ∀ w : World, (Instr.makeSlice 112 (.int .i64 (n : Int)) (.int .i64 (n : Int))).run Tryz.prog w = .ok (.slice (some ⟨w.heap.size, 0, none⟩) n n) (w.alloc (.cells (madeCells #[.float .f64 0, .float .f64 0, .float .f64 0, .float .f64 0, .int .u8 0, .bool false] (n * 6)) 109)) := fun w => by
    have h := run_make_rowN (P := Tryz.prog) 112 109 i0 (.agg #[.float .f64 0, .float .f64 0, .float .f64 0, .float .f64 0, .int .u8 0, .bool false]) Tryz.underlying112 hi0 hz0 .i64 .i64 n n (Nat.le_refl _) (by rw [hz2]; omega) (by omega) w
    rw [hz1] at h
    exact h
  obtain ⟨css, ho3, hf3⟩ := row_made (R := PtG) (sz := 6) (e := 109) (w := W) (ok := fun b => W.heap.size + 1 ≤ b) (ts := ts.map (forceT Q)) (n := n) (cur := madeCells #[.float .f64 0, .float .f64 0, .float .f64 0, .float .f64 0, .int .u8 0, .bool false] (n * 6)) (by rw [List.length_map]; exact hrl) (size_madeCells _ _) hn
  have hb3 : Below W.heap.size W (W.alloc (.cells (madeCells #[.float .f64 0, .float .f64 0, .float .f64 0, .float .f64 0, .int .u8 0, .bool false] (n * 6)) 109)) := (Below.refl _ _).alloc (Nat.le_refl _) _
  have hs3 : W.heap.size + 1 ≤ (W.alloc (.cells (madeCells #[.float .f64 0, .float .f64 0, .float .f64 0, .float .f64 0, .int .u8 0, .bool false] (n * 6)) 109)).heap.size := by simp
  have H := Hd h
  have HRL := Hd hrl
  have HOK := Hd hok
  clear h hrl hok
  go_enter Tryz.func171, Tryz.ntmps171
  go_wp2_with fail
  generalize W.alloc (.cells (madeCells #[.float .f64 0, .float .f64 0, .float .f64 0, .float .f64 0, .int .u8 0, .bool false] (n * 6)) 109) = w3 at *
  have HO3 := Hd ho3
  have HF3 := Hd hf3
  have HB3 := Hd hb3
  clear ho3 hf3 hb3
  go_loopw [13] (fun i wr => ∃ (k : Nat) (cs : List (List Value)), k ≤ n ∧ i = .int .i64 k ∧ wr.ownsRow 0 109 6 (.slice (some ⟨W.heap.size, 0, none⟩) n n) n cs.flatten ∧ FillG PtG 6 wr (fun b => W.heap.size + 1 ≤ b) (ts.map (forceT Q)) k cs ∧ Below W.heap.size W wr ∧ W.heap.size + 1 ≤ wr.heap.size) (fun i _ => n - (intOf i).toNat)
  case atStart => exact ⟨0, css, Nat.zero_le _, rfl, HO3.out, HF3.out, HB3.out, hs3⟩
  case round =>
    obtain ⟨k, cs, hk, rfl, ow, md, hbr, hsr⟩ := hrel
    by_cases hlt : k < n
    · obtain ⟨g, x, s, rfl, hgok, hr, hxl, hcl, hrs, hgl⟩ := row_at HRL.out H.out hlt
      replace hgl := hgl (by decide)
      have hsm : s ∈ ts := List.mem_of_getElem? hr
      obtain ⟨rx, ry, rz, rm, rq, rf, rfl, -⟩ := hrs.shape
      have j0 := (hbr.cell (p := ⟨g, k * 6 + 0, none⟩) hgl).trans (hcl 0 _ rfl)
      have j1 := (hbr.cell (p := ⟨g, k * 6 + 1, none⟩) hgl).trans (hcl 1 _ rfl)
      have j2 := (hbr.cell (p := ⟨g, k * 6 + 2, none⟩) hgl).trans (hcl 2 _ rfl)
      have j3 := (hbr.cell (p := ⟨g, k * 6 + 3, none⟩) hgl).trans (hcl 3 _ rfl)
      have j4 := (hbr.cell (p := ⟨g, k * 6 + 4, none⟩) hgl).trans (hcl 4 _ rfl)
      have j5 := (hbr.cell (p := ⟨g, k * 6 + 5, none⟩) hgl).trans (hcl 5 _ rfl)
      rw [Nat.add_zero] at j0
      have hclen : k < cs.length := by rw [md.1, List.length_map, HRL.out]; exact hlt
      have hck : cs[k]? = some (cs[k]'hclen) := List.getElem?_eq_getElem _
      generalize (cs[k]'hclen) = z at hck
      obtain ⟨za, zb, zc, zd, ze, zf, rfl⟩ := list6 (md.2.1 z (List.mem_of_getElem? hck))
      have ad : ∀ g j : Nat, (⟨g, 0, none⟩ : Addr).add j = ⟨g, j, none⟩ := fun g j => by unfold Addr.add; split <;> simp_all
      have kk : ∀ (j : Nat) (u : Value), j < 6 → [za, zb, zc, zd, ze, zf][j]? = some u → wr.cell? ⟨W.heap.size, k * 6 + j, none⟩ = some u := fun j u hj hu => by
        have := ow.cells (g := W.heap.size) rfl (k * 6 + j) u (by rw [flat_at md.2.1 hck hj]; exact hu)
        rwa [ad] at this
      have hrk : (ts.map (forceT Q))[k]? = some (forceT Q s) := by rw [List.getElem?_map, hr]; rfl
      have HCALL := Hd (PtForce_G Q Q0 Q1 (wr.alloc (.cells #[.float .f64 rx, .float .f64 ry, .float .f64 rz, .float .f64 rm, .int .u8 rq, .bool rf] 109)) (PtG.any (ok' := fun _ => True) hrs) (HOK.out s hsm))
      have HKK := Hd kk
      have OW := Hd ow
      have MD := Hd md
      have HBR := Hd hbr
      have HRK := Hd hrk
      clear ow md hbr hr hck hcl hrs hrk hsm kk
      go_wp2_with fail
      refine HCALL.out.mono ?_
      rintro e w5 ⟨yx, yy, yz, ym, yq, yf, rfl, h5, b5'⟩
      have b5 : Below wr.heap.size wr w5 := ((Below.refl wr.heap.size wr).alloc (Nat.le_refl _) _).trans (b5'.mono (by simp))
      have o5 : w5.ownsRow 0 109 6 (.slice (some ⟨W.heap.size, 0, none⟩) n n) n cs.flatten := own_keep OW.out (fun b _ hb => b5.block b hb)
      have y0 := own_frozen o5 (g := W.heap.size) rfl (k * 6)
      have y1 := own_frozen o5 (g := W.heap.size) rfl (k * 6 + 1)
      have y2 := own_frozen o5 (g := W.heap.size) rfl (k * 6 + 2)
      have y3 := own_frozen o5 (g := W.heap.size) rfl (k * 6 + 3)
      have y4 := own_frozen o5 (g := W.heap.size) rfl (k * 6 + 4)
      have y5 := own_frozen o5 (g := W.heap.size) rfl (k * 6 + 5)
      have q0 := (b5.cell (p := ⟨W.heap.size, k * 6 + 0, none⟩) (by show W.heap.size < _; omega)).trans (HKK.out 0 _ (by omega) rfl)
      have q1 := (b5.cell (p := ⟨W.heap.size, k * 6 + 1, none⟩) (by show W.heap.size < _; omega)).trans (HKK.out 1 _ (by omega) rfl)
      have q2 := (b5.cell (p := ⟨W.heap.size, k * 6 + 2, none⟩) (by show W.heap.size < _; omega)).trans (HKK.out 2 _ (by omega) rfl)
      have q3 := (b5.cell (p := ⟨W.heap.size, k * 6 + 3, none⟩) (by show W.heap.size < _; omega)).trans (HKK.out 3 _ (by omega) rfl)
      have q4 := (b5.cell (p := ⟨W.heap.size, k * 6 + 4, none⟩) (by show W.heap.size < _; omega)).trans (HKK.out 4 _ (by omega) rfl)
      have q5 := (b5.cell (p := ⟨W.heap.size, k * 6 + 5, none⟩) (by show W.heap.size < _; omega)).trans (HKK.out 5 _ (by omega) rfl)
      rw [Nat.add_zero] at q0
      have O5 := Hd o5
      have H5 := Hd h5
      have B5 := Hd b5
      clear o5 h5 b5 b5' j0 j1 j2 j3 j4 j5
      go_wp2
      go_roundw
      case rel =>
        have hfl : cs.flatten.length = n * 6 := OW.out.1
        have hs5 := B5.out.size
        have hbl : ∀ b, b ≠ W.heap.size → ((((((w5.setCell ⟨W.heap.size, k * 6, none⟩ (.float .f64 yx)).setCell ⟨W.heap.size, k * 6 + 1, none⟩ (.float .f64 yy)).setCell ⟨W.heap.size, k * 6 + 2, none⟩ (.float .f64 yz)).setCell ⟨W.heap.size, k * 6 + 3, none⟩ (.float .f64 ym)).setCell ⟨W.heap.size, k * 6 + 4, none⟩ (.int .u8 yq)).setCell ⟨W.heap.size, k * 6 + 5, none⟩ (.bool yf)).heap[b]? = w5.heap[b]? := fun b hb => by
          rw [Below.heap_setCell _ _ _ b hb, Below.heap_setCell _ _ _ b hb, Below.heap_setCell _ _ _ b hb, Below.heap_setCell _ _ _ b hb, Below.heap_setCell _ _ _ b hb, Below.heap_setCell _ _ _ b hb]
        refine ⟨k + 1, cs.set k [.float .f64 yx, .float .f64 yy, .float .f64 yz, .float .f64 ym, .int .u8 yq, .bool yf], by omega, by go_num, ?_, FillG.next (FillG.keep PtG.keeps MD.out (fun b hb hl => (hbl b (by omega)).trans (B5.out.block b hl)) (fun b hb _ => hb)) HRK.out rfl (PtG.any H5.out), ?_, by simp [World.setCell]; omega⟩
        · rw [flat_set6 MD.out.2.1 hclen]
          exact own_store (own_store (own_store (own_store (own_store (own_store O5.out rfl (by rw [hfl]; omega) _) rfl (by simp only [List.length_set, hfl]; omega) _) rfl (by simp only [List.length_set, hfl]; omega) _) rfl (by simp only [List.length_set, hfl]; omega) _) rfl (by simp only [List.length_set, hfl]; omega) _) rfl (by simp only [List.length_set, hfl]; omega) _
        · exact below_setCell' (below_setCell' (below_setCell' (below_setCell' (below_setCell' (below_setCell' (HBR.out.trans (B5.out.mono HBR.out.size)) (Nat.le_refl _) _) (Nat.le_refl _) _) (Nat.le_refl _) _) (Nat.le_refl _) _) (Nat.le_refl _) _) (Nat.le_refl _) _
      case measure => simp [intOf]; omega
    · obtain rfl : n = k := by omega
      have hrow : KRow PtG 109 6 wr (fun b => W.heap.size ≤ b) (.slice (some ⟨W.heap.size, 0, none⟩) n n) (ts.map (forceT Q)) :=
        FillG.row PtG.keeps md (by rw [List.length_map, HRL.out]) ow (fun b hb => ⟨by omega, by omega⟩) (Nat.le_refl _)
      have ROW := Hd hrow
      have HBR := Hd hbr
      clear hrow hbr ow md
      go_wp2
      go_ret
      exact ⟨_, _, rfl, ROW.out, HBR.out⟩

end Go.Proofs.YtofdccmmagcamaaGreatDoor

/- Several points: their type, made of points, brought to a type. -/
set_option maxHeartbeats 8000000
set_option linter.unusedSimpArgs false
set_option linter.unusedVariables false
namespace Go.Proofs.YtofdccmmagcamaaGreatDoor
open Go.RowKit Go.Proofs.YtofdccmmagcamaaGreatDoorW.PrintLast

attribute [local go_sem] run_store_float

set_option maxRecDepth 100000 in
theorem MpCT (A : Option Addr) (n c : Nat) (q : Int) (w : World) : Calls Tryz.prog 97 #[.agg #[.slice A n c, .int .u8 q]] w fun e w' => e = .returned (.int .u8 q) ∧ Below w.heap.size w w' := by
  go_enter Tryz.func97, Tryz.ntmps97
  go_wp2
  go_ret
  exact ⟨rfl, (Below.refl _ _).alloc (Nat.le_refl _) _⟩
theorem MpCT_G {ok : Nat → Prop} {A : Option Addr} {n c : Nat} {q : Int} {t : Gm} (W : World) (h : MpG W ok [.slice A n c, .int .u8 q] t) :
    Calls Tryz.prog 97 #[.agg #[.slice A n c, .int .u8 q]] W fun e w' => e = .returned (.int .u8 t.d) ∧ Below W.heap.size W w' := by
  obtain ⟨A', n', c', q', e, hd, -⟩ := RowG.shape h
  simp only [List.cons.injEq, Value.int.injEq, and_true, true_and] at e
  rw [hd, ← e.2]
  exact MpCT A n c q W
theorem MpG.shape {w : World} {ok : Nat → Prop} {x : List Value} {t : Gm} (h : MpG w ok x t) : ∃ (A : Option Addr) (n c : Nat) (q : Int), x = [.slice A n c, .int .u8 q] ∧ t.d = q ∧ 0 ≤ q ∧ q ≤ 3 := RowG.shape h

set_option maxRecDepth 100000 in
theorem NewMultiPoint_G {ok : Nat → Prop} {A : Option Addr} {n c : Nat} {ts : List Gm} (W : World) (h : KRow PtG 109 6 W ok (.slice A n c) ts) (hrl : ts.length = n) (hok : ∀ t ∈ ts, OkT t) (hn : n ≤ 100000) (hn0 : 0 < n) :
    Calls Tryz.prog 127 #[.slice A n c] W fun e w' => ∃ (A' : Option Addr) (n' c' : Nat) (q' : Int), e = .returned (.agg #[.slice A' n' c', .int .u8 q']) ∧ MpG w' (fun b => ok b ∨ W.heap.size ≤ b) [.slice A' n' c', .int .u8 q'] (.mk 4 (ctF ts) [] (ts.map (forceT (ctF ts)))) ∧ Below W.heap.size W w' := by
  have hd : ((n : Int) == 0) = false := by rw [beq_eq_false_iff_ne]; omega
  have H := Hd h
  have HRL := Hd hrl
  have HOK := Hd hok
  clear h hrl hok
  go_enter Tryz.func127, Tryz.ntmps127
  go_wp2_with fail
  have hb3 : Below W.heap.size W (W.alloc (.cells #[.slice none 0 0, .int .u8 0] 114)) := (Below.refl _ _).alloc (Nat.le_refl _) _
  have x3 := Blk.new W 114 #[.slice none 0 0, .int .u8 0]
  have hs3 : W.heap.size + 1 ≤ (W.alloc (.cells #[.slice none 0 0, .int .u8 0] 114)).heap.size := by simp
  generalize W.alloc (.cells #[.slice none 0 0, .int .u8 0] 114) = w3 at *
  have X3 := Hd x3
  have HB3 := Hd hb3
  clear x3 hb3
  go_loopw [3, 13] (fun u i wr => ∃ (k : Nat), k ≤ n ∧ i = .int .i64 k ∧ u = .int .u8 (ctF (ts.take k)) ∧ 0 ≤ ctF (ts.take k) ∧ ctF (ts.take k) ≤ 3 ∧ Blk wr W.heap.size 114 #[.slice none 0 0, .int .u8 0] ∧ Below W.heap.size W wr ∧ W.heap.size + 1 ≤ wr.heap.size) (fun _ i _ => n - (intOf i).toNat)
  case atStart => exact ⟨0, Nat.zero_le _, rfl, rfl, by show (0 : Int) ≤ 3; decide, by show (3 : Int) ≤ 3; decide, X3.out, HB3.out, hs3⟩
  case round =>
    obtain ⟨k, hk, rfl, rfl, t0, t1, x0, hbr, hsr⟩ := hrel
    by_cases hlt : k < n
    · obtain ⟨g, x, s, rfl, hgok, hr, hxl, hcl, hrs, hgl⟩ := row_at HRL.out H.out hlt
      replace hgl := hgl (by decide)
      obtain ⟨rx, ry, rz, rm, rq, rf, rfl, -⟩ := hrs.shape
      obtain ⟨s0, s1⟩ : 0 ≤ s.d ∧ s.d ≤ 3 := (HOK.out s (List.mem_of_getElem? hr)).dr
      have hct : ctF (ts.take (k + 1)) = dand (ctF (ts.take k)) s.d := by
        unfold ctF
        rw [List.take_add_one, hr, Option.toList_some, List.foldl_append]
        rfl
      obtain ⟨v0, v1⟩ := dand_range t0 t1 s0 s1
      have hdu := dand_u8 t0 t1 s0 s1
      have j0 := (hbr.cell (p := ⟨g, k * 6 + 0, none⟩) hgl).trans (hcl 0 _ rfl)
      have j1 := (hbr.cell (p := ⟨g, k * 6 + 1, none⟩) hgl).trans (hcl 1 _ rfl)
      have j2 := (hbr.cell (p := ⟨g, k * 6 + 2, none⟩) hgl).trans (hcl 2 _ rfl)
      have j3 := (hbr.cell (p := ⟨g, k * 6 + 3, none⟩) hgl).trans (hcl 3 _ rfl)
      have j4 := (hbr.cell (p := ⟨g, k * 6 + 4, none⟩) hgl).trans (hcl 4 _ rfl)
      have j5 := (hbr.cell (p := ⟨g, k * 6 + 5, none⟩) hgl).trans (hcl 5 _ rfl)
      rw [Nat.add_zero] at j0
      have hcall := PtCT_G (wr.alloc (.cells #[.float .f64 rx, .float .f64 ry, .float .f64 rz, .float .f64 rm, .int .u8 rq, .bool rf] 109)) (PtG.keeps _ _ _ (fun b => b < W.heap.size) _ _ hrs (fun b _ hl => (Below.heap_alloc wr _ b (by omega)).trans (hbr.block b hl)) (fun b _ hl => hl))
      generalize ctF (ts.take k) = ct at *
      have HCT := Hd hct
      have HDU := Hd hdu
      have HBR := Hd hbr
      have X0 := Hd x0
      have HCALL := Hd hcall
      clear hct hdu hbr x0 hr hcl hcall hrs
      generalize s.d = sq at *
      go_wp2_with fail
      refine HCALL.out.mono ?_
      rintro e w5 ⟨rfl, h5⟩
      have hb5 : Below wr.heap.size wr w5 := ((Below.refl _ _).alloc (Nat.le_refl _) _).trans (h5.mono (by simp))
      have HB5 := Hd hb5
      clear h5 hb5
      go_wp2
      go_roundw
      case rel =>
        refine ⟨k + 1, by omega, by go_num, by rw [HCT.out, ← HDU.out], by rw [HCT.out]; exact v0, by rw [HCT.out]; exact v1, X0.out.below HB5.out X0.out.lt, HBR.out.trans (HB5.out.mono HBR.out.size), by have := HB5.out.size; omega⟩
      case measure => simp [intOf]; omega
    · obtain rfl : n = k := by omega
      rw [List.take_of_length_le (by rw [HRL.out]; exact Nat.le_refl _)] at t0 t1
      rw [List.take_of_length_le (by rw [HRL.out]; exact Nat.le_refl _)]
      generalize hCT : ctF ts = ct at *
      have HC0 := Hd hCT
      clear hCT
      have HSL := Hd (PtSlice_G ct t0 t1 wr (KRow.keep PtG.keeps H.out (fun b _ hl => hbr.block b hl) (fun b h _ => h)) HRL.out HOK.out hn)
      have HBR := Hd hbr
      have X0 := Hd x0
      clear hbr x0
      go_wp2_with fail
      refine HSL.out.mono ?_
      rintro e w5 ⟨A5, c5, rfl, k5, b5⟩
      have x0 := X0.out.below b5 X0.out.lt
      have c0 := x0.cell 0
      have c1' := x0.cell 1
      have z0 := x0.frozen 0
      have z1 := x0.frozen 1
      simp at c0 c1'
      have e0 : (w5.setCell ⟨W.heap.size, 0, none⟩ (.slice A5 n c5)).cell? ⟨W.heap.size, 0, none⟩ = some (.slice A5 n c5) := by simpa using (x0.set_ 0 (.slice A5 n c5)).cell 0
      have e1 : ((w5.setCell ⟨W.heap.size, 0, none⟩ (.slice A5 n c5)).setCell ⟨W.heap.size, 1, none⟩ (.int .u8 ct)).cell? ⟨W.heap.size, 1, none⟩ = some (.int .u8 ct) := by simpa using ((x0.set_ 0 (.slice A5 n c5)).set_ 1 (.int .u8 ct)).cell 1
      have ROW := Hd k5
      have HB5 := Hd (HBR.out.trans (b5.mono HBR.out.size))
      clear k5 b5 x0
      go_wp2
      refine bodyPost_ret (by simp [results, Tryz.results127, go_sem, e0, e1]; try rfl) rfl ?_
      rw [HC0.out]
      refine ⟨A5, n, c5, ct, rfl, ⟨A5, n, c5, ct, _, rfl, rfl, t0, t1, by rw [List.length_map, HRL.out], hn, KRow.keep PtG.keeps ROW.out (fun b hb _ => ?_) (fun b hb _ => .inr (by have := HBR.out.size; omega))⟩, ?_⟩
      · have hne : b ≠ W.heap.size := by omega
        rw [Below.heap_setCell _ _ _ b hne, Below.heap_setCell _ _ _ b hne]
      · exact below_setCell' (below_setCell' HB5.out (Nat.le_refl _) _) (Nat.le_refl _) _

set_option maxRecDepth 100000 in
theorem MpForce_raw (Q : Int) (Q0 : 0 ≤ Q) (Q1 : Q ≤ 3) {ok : Nat → Prop} {A : Option Addr} {n c : Nat} (q : Int) {ts : List Gm} (W : World) (h : KRow PtG 109 6 W ok (.slice A n c) ts) (hrl : ts.length = n) (hok : ∀ t ∈ ts, OkT t) (hn : n ≤ 100000) :
    Calls Tryz.prog 126 #[.agg #[.slice A n c, .int .u8 q], .int .u8 Q] W fun e w' => ∃ (A' : Option Addr) (n' c' : Nat) (q' : Int), e = .returned (.agg #[.slice A' n' c', .int .u8 q']) ∧ MpG w' (fun b => ok b ∨ W.heap.size ≤ b) [.slice A' n' c', .int .u8 q'] (.mk 4 Q [] (ts.map (forceT Q))) ∧ Below W.heap.size W w' := by
  have hb2 : Below W.heap.size W ((W.alloc (.cells #[.slice A n c, .int .u8 q] 114)).alloc (.cells #[.slice none 0 0, .int .u8 0] 114)) := ((Below.refl _ _).alloc (Nat.le_refl _) _).alloc (by simp) _
  have b1 := Blk.new (W.alloc (.cells #[.slice A n c, .int .u8 q] 114)) 114 #[.slice none 0 0, .int .u8 0]
  have HSL := Hd (PtSlice_G Q Q0 Q1 ((W.alloc (.cells #[.slice A n c, .int .u8 q] 114)).alloc (.cells #[.slice none 0 0, .int .u8 0] 114)) (KRow.keep PtG.keeps h (fun b _ hl => hb2.block b hl) (fun b h _ => h)) hrl hok hn)
  have hsz2 : ((W.alloc (.cells #[.slice A n c, .int .u8 q] 114)).alloc (.cells #[.slice none 0 0, .int .u8 0] 114)).heap.size = W.heap.size + 2 := by simp
  rw [World.size_alloc] at b1
  have B1 := Hd b1
  have HB2 := Hd hb2
  have HRL := Hd hrl
  have HS2 := Hd hsz2
  clear b1 hb2 h hrl hok hsz2
  go_enter Tryz.func126, Tryz.ntmps126
  go_wp2_with fail
  refine HSL.out.mono ?_
  rintro e w5 ⟨A5, c5, rfl, k5, b5⟩
  have x0 := B1.out.below b5 B1.out.lt
  have c0 := x0.cell 0
  have c1' := x0.cell 1
  have z0 := x0.frozen 0
  have z1 := x0.frozen 1
  simp at c0 c1'
  have e0 : (w5.setCell ⟨W.heap.size + 1, 0, none⟩ (.slice A5 n c5)).cell? ⟨W.heap.size + 1, 0, none⟩ = some (.slice A5 n c5) := by simpa using (x0.set_ 0 (.slice A5 n c5)).cell 0
  have e1 : ((w5.setCell ⟨W.heap.size + 1, 0, none⟩ (.slice A5 n c5)).setCell ⟨W.heap.size + 1, 1, none⟩ (.int .u8 Q)).cell? ⟨W.heap.size + 1, 1, none⟩ = some (.int .u8 Q) := by simpa using ((x0.set_ 0 (.slice A5 n c5)).set_ 1 (.int .u8 Q)).cell 1
  have ROW := Hd k5
  have HB5 := Hd (HB2.out.trans (b5.mono HB2.out.size))
  clear k5 b5 x0
  go_wp2
  refine bodyPost_ret (by simp [results, Tryz.results126, go_sem, e0, e1]; try rfl) rfl ?_
  refine ⟨A5, n, c5, Q, rfl, ⟨A5, n, c5, Q, _, rfl, rfl, Q0, Q1, by rw [List.length_map, HRL.out], hn, KRow.keep PtG.keeps ROW.out (fun b hb _ => ?_) (fun b hb _ => .inr (by have := HS2.out; omega))⟩, ?_⟩
  · have hne : b ≠ W.heap.size + 1 := by have := HS2.out; omega
    rw [Below.heap_setCell _ _ _ b hne, Below.heap_setCell _ _ _ b hne]
  · exact below_setCell' (below_setCell' HB5.out (Nat.le_succ _) _) (Nat.le_succ _) _

theorem MpForce_G (Q : Int) (Q0 : 0 ≤ Q) (Q1 : Q ≤ 3) {ok : Nat → Prop} {A : Option Addr} {n c : Nat} {q : Int} {t : Gm} (W : World) (h : MpG W ok [.slice A n c, .int .u8 q] t) (ho : OkT t) :
    Calls Tryz.prog 126 #[.agg #[.slice A n c, .int .u8 q], .int .u8 Q] W fun e w' => ∃ (A' : Option Addr) (n' c' : Nat) (q' : Int), e = .returned (.agg #[.slice A' n' c', .int .u8 q']) ∧ MpG w' (fun b => ok b ∨ W.heap.size ≤ b) [.slice A' n' c', .int .u8 q'] (forceT Q t) ∧ Below W.heap.size W w' := by
  obtain ⟨A', n', c', q', ks, rfl, e, h0, h1, hl, hn, hr⟩ := h
  simp only [List.cons.injEq, Value.slice.injEq, Value.int.injEq, and_true, true_and] at e
  obtain ⟨⟨rfl, rfl, rfl⟩, rfl⟩ := e
  rw [forceT_mk, row_force_nil]
  cases ho with
  | mk d0 d1 hn' hm hk => exact MpForce_raw Q Q0 Q1 q W hr hl hk hn

end Go.Proofs.YtofdccmmagcamaaGreatDoor
