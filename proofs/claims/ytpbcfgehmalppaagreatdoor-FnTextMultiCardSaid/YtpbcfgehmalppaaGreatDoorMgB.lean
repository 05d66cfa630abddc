import Derived.Test.YtpbcfgehmalppaaGreatDoorMgA
import Derived.Test.YtpbcfgehmalppaaGreatDoorJsD
import Derived.Test.YtpbcfgehmalppaaGreatDoorPgW
import Derived.Test.YtpbcfgehmalppaaGreatDoorPgVm
/- Points: as trees, brought to a type, their texts, made of plain data. -/
namespace Go.Proofs.YtpbcfgehmalppaaGreatDoor
open Go.RowKit

attribute [local go_sem] run_store_float

/-- The cells cs read as the point t. -/
def PtG (_ : World) (_ : Nat → Prop) (cs : List Value) (t : Gm) : Prop :=
  ∃ (x y z m : Nat) (q : Int) (f : Bool), cs = [.float .f64 x, .float .f64 y, .float .f64 z, .float .f64 m, .int .u8 q, .bool f] ∧ 0 ≤ q ∧ q ≤ 3 ∧ (x < 18446744073709551616 ∧ y < 18446744073709551616 ∧ z < 18446744073709551616 ∧ m < 18446744073709551616) ∧ t = .mk 1 q (if f = true then plNums q (x, y, z, m) else []) []
theorem PtG.any {w w' : World} {ok ok' : Nat → Prop} {c : List Value} {t : Gm} (h : PtG w ok c t) : PtG w' ok' c t := h
theorem PtG.keeps : Keeps PtG := fun _ _ _ _ _ _ h _ _ => h
theorem PtG.shape {w : World} {ok : Nat → Prop} {c : List Value} {t : Gm} (h : PtG w ok c t) : ∃ (x y z m : Nat) (q : Int) (f : Bool), c = [.float .f64 x, .float .f64 y, .float .f64 z, .float .f64 m, .int .u8 q, .bool f] ∧ t.d = q ∧ 0 ≤ q ∧ q ≤ 3 := by
  obtain ⟨x, y, z, m, q, f, rfl, h0, h1, -, rfl⟩ := h
  exact ⟨x, y, z, m, q, f, rfl, rfl, h0, h1⟩
theorem plNums_bits {q : Int} {x y z m : Nat} (h : x < 18446744073709551616 ∧ y < 18446744073709551616 ∧ z < 18446744073709551616 ∧ m < 18446744073709551616) : ∀ b ∈ plNums q (x, y, z, m), b < 18446744073709551616 := by
  intro b hb
  unfold plNums at hb
  simp only [List.mem_append, List.mem_cons, List.not_mem_nil, or_false] at hb
  rcases hb with (rfl | rfl) | hb | hb
  · exact h.1
  · exact h.2.1
  · split at hb <;> simp at hb; subst hb; exact h.2.2.1
  · split at hb <;> simp at hb; subst hb; exact h.2.2.2
theorem PtG.nums {w : World} {ok : Nat → Prop} {c : List Value} {t : Gm} (h : PtG w ok c t) : NumT t := by
  obtain ⟨x, y, z, m, q, f, rfl, h0, h1, hb, rfl⟩ := h
  refine .mk (fun b hb' => ?_) (by simp)
  split at hb'
  · exact plNums_bits hb b hb'
  · cases hb'

set_option maxRecDepth 100000 in
theorem PtCT_G {ok : Nat → Prop} {x y z m : Nat} {q : Int} {f : Bool} {t : Gm} (W : World) (h : PtG W ok [.float .f64 x, .float .f64 y, .float .f64 z, .float .f64 m, .int .u8 q, .bool f] t) :
    Calls Tryz.prog 99 #[.agg #[.float .f64 x, .float .f64 y, .float .f64 z, .float .f64 m, .int .u8 q, .bool f]] W fun e w' => e = .returned (.int .u8 t.d) ∧ Below W.heap.size W w' := by
  obtain ⟨_, _, _, _, q', _, e, hd, -⟩ := h.shape
  simp only [List.cons.injEq, Value.int.injEq, and_true, true_and] at e
  rw [hd, ← e.2.2.2.2.1]
  clear hd e h
  go_enter Tryz.func99, Tryz.ntmps99
  go_wp2
  go_ret
  exact ⟨rfl, (Below.refl _ _).alloc (Nat.le_refl _) _⟩

theorem ptN_plNums (q : Int) (q0 : 0 ≤ q) (q1 : q ≤ 3) (p : Pl) : plNums q (ptN q (plNums q p) 0) = plNums q p := by
  have h : q = 0 ∨ q = 1 ∨ q = 2 ∨ q = 3 := by omega
  rcases h with rfl | rfl | rfl | rfl <;> rfl
theorem force_pt (Q q : Int) (Q0 : 0 ≤ Q) (Q1 : Q ≤ 3) (q0 : 0 ≤ q) (q1 : q ≤ 3) (x y z m z' m' : Nat) (hz : Q % 2 = 1 → z' = if q % 2 = 1 then z else 0) (hm : Q / 2 % 2 = 1 → m' = if q / 2 % 2 = 1 then m else 0) :
    forceT Q (.mk 1 q (plNums q (x, y, z, m)) []) = .mk 1 Q (plNums Q (x, y, z', m')) [] := by
  rw [forceT_mk, plNums_wd' q q0 q1, Nat.div_self (by have := wd_pos q; omega)]
  congr 1
  have e : plsNums Q (ptsN q (plNums q (x, y, z, m)) 1) = plNums Q (ptN q (plNums q (x, y, z, m)) 0) := by simp [plsNums, ptsN]
  rw [e]
  have h : q = 0 ∨ q = 1 ∨ q = 2 ∨ q = 3 := by omega
  have h' : Q = 0 ∨ Q = 1 ∨ Q = 2 ∨ Q = 3 := by omega
  rcases h with rfl | rfl | rfl | rfl <;> rcases h' with rfl | rfl | rfl | rfl <;> simp [plNums, ptN, wd] at hz hm ⊢ <;> simp [hz, hm]

theorem is3D_cases (q : Int) (q0 : 0 ≤ q) (q1 : q ≤ 3) : ∃ b : Bool, (b = true ↔ q % 2 = 1) ∧ ((q = 0 ∧ b = false) ∨ (q = 1 ∧ b = true) ∨ (q = 2 ∧ b = false) ∨ (q = 3 ∧ b = true)) := by
  have h : q = 0 ∨ q = 1 ∨ q = 2 ∨ q = 3 := by omega
  rcases h with rfl | rfl | rfl | rfl
  · exact ⟨false, by simp, by simp⟩
  · exact ⟨true, by simp, by simp⟩
  · exact ⟨false, by simp, by simp⟩
  · exact ⟨true, by simp, by simp⟩
theorem isM_cases (q : Int) (q0 : 0 ≤ q) (q1 : q ≤ 3) : ∃ b : Bool, (b = true ↔ q / 2 % 2 = 1) ∧ ((q = 0 ∧ b = false) ∨ (q = 1 ∧ b = false) ∨ (q = 2 ∧ b = true) ∨ (q = 3 ∧ b = true)) := by
  have h : q = 0 ∨ q = 1 ∨ q = 2 ∨ q = 3 := by omega
  rcases h with rfl | rfl | rfl | rfl
  · exact ⟨false, by simp, by simp⟩
  · exact ⟨false, by simp, by simp⟩
  · exact ⟨true, by simp, by simp⟩
  · exact ⟨true, by simp, by simp⟩

set_option maxHeartbeats 1000000 in
set_option maxRecDepth 100000 in
theorem PtForce_tt (Q q : Int) (x y z m : Nat) (b3 b3' bM bM' : Bool) (h3 : ∀ w, Calls Tryz.prog 139 #[.int .u8 Q] w fun e w' => e = .returned (.bool b3) ∧ w' = w) (h3' : ∀ w, Calls Tryz.prog 139 #[.int .u8 q] w fun e w' => e = .returned (.bool b3') ∧ w' = w)
    (hM : ∀ w, Calls Tryz.prog 140 #[.int .u8 Q] w fun e w' => e = .returned (.bool bM) ∧ w' = w) (hM' : ∀ w, Calls Tryz.prog 140 #[.int .u8 q] w fun e w' => e = .returned (.bool bM') ∧ w' = w)
    (he3 : (b3 == b3') = true) (heM : (bM == bM') = true) (W : World) :
    Calls Tryz.prog 142 #[.agg #[.float .f64 x, .float .f64 y, .float .f64 z, .float .f64 m, .int .u8 q, .bool true], .int .u8 Q] W fun e w' => e = .returned (.agg #[.float .f64 x, .float .f64 y, .float .f64 z, .float .f64 m, .int .u8 Q, .bool true]) ∧ Below W.heap.size W w' := by
  have hbase : Below W.heap.size W ((W.alloc (.cells #[.float .f64 x, .float .f64 y, .float .f64 z, .float .f64 m, .int .u8 q, .bool true] 52)).alloc (.cells #[.float .f64 0, .float .f64 0, .float .f64 0, .float .f64 0, .int .u8 0, .bool false] 52)) := ((Below.refl W.heap.size W).alloc (Nat.le_refl _) _).alloc (by simp) _
  have HBASE := Lib.hid hbase
  clear hbase
  have HA := Lib.hid h3
  have HB := Lib.hid h3'
  have HC := Lib.hid hM
  have HD := Lib.hid hM'
  clear h3 h3' hM hM'
  go_enter Tryz.func142, Tryz.ntmps142
  go_wp2
  go_quiet ((go_at_call 139; first | with_reducible exact Calls.quiet_of_same (HA.out _) | with_reducible exact Calls.quiet_of_same (HB.out _)))
  go_wp2
  go_quiet ((go_at_call 140; first | with_reducible exact quiet_add_same (HC.out _) | with_reducible exact quiet_add_same (HD.out _)))
  go_wp2
  go_returns
  refine ⟨rfl, ?_⟩
  repeat (first | with_reducible exact HBASE.out | with_reducible refine below_drewN ?_ _ | with_reducible refine below_setCell' ?_ ?_ _)
  all_goals (first | exact Nat.le_refl _ | exact Nat.le_succ _)

set_option maxHeartbeats 1000000 in
set_option maxRecDepth 100000 in
theorem PtForce_tf (Q q : Int) (x y z m : Nat) (b3 b3' bM bM' : Bool) (h3 : ∀ w, Calls Tryz.prog 139 #[.int .u8 Q] w fun e w' => e = .returned (.bool b3) ∧ w' = w) (h3' : ∀ w, Calls Tryz.prog 139 #[.int .u8 q] w fun e w' => e = .returned (.bool b3') ∧ w' = w)
    (hM : ∀ w, Calls Tryz.prog 140 #[.int .u8 Q] w fun e w' => e = .returned (.bool bM) ∧ w' = w) (hM' : ∀ w, Calls Tryz.prog 140 #[.int .u8 q] w fun e w' => e = .returned (.bool bM') ∧ w' = w)
    (he3 : (b3 == b3') = true) (heM : (bM == bM') = false) (W : World) :
    Calls Tryz.prog 142 #[.agg #[.float .f64 x, .float .f64 y, .float .f64 z, .float .f64 m, .int .u8 q, .bool true], .int .u8 Q] W fun e w' => e = .returned (.agg #[.float .f64 x, .float .f64 y, .float .f64 z, .float .f64 0, .int .u8 Q, .bool true]) ∧ Below W.heap.size W w' := by
  have hbase : Below W.heap.size W ((W.alloc (.cells #[.float .f64 x, .float .f64 y, .float .f64 z, .float .f64 m, .int .u8 q, .bool true] 52)).alloc (.cells #[.float .f64 0, .float .f64 0, .float .f64 0, .float .f64 0, .int .u8 0, .bool false] 52)) := ((Below.refl W.heap.size W).alloc (Nat.le_refl _) _).alloc (by simp) _
  have HBASE := Lib.hid hbase
  clear hbase
  have HA := Lib.hid h3
  have HB := Lib.hid h3'
  have HC := Lib.hid hM
  have HD := Lib.hid hM'
  clear h3 h3' hM hM'
  go_enter Tryz.func142, Tryz.ntmps142
  go_wp2
  go_quiet ((go_at_call 139; first | with_reducible exact Calls.quiet_of_same (HA.out _) | with_reducible exact Calls.quiet_of_same (HB.out _)))
  go_wp2
  go_quiet ((go_at_call 140; first | with_reducible exact quiet_add_same (HC.out _) | with_reducible exact quiet_add_same (HD.out _)))
  go_wp2
  go_returns
  refine ⟨rfl, ?_⟩
  repeat (first | with_reducible exact HBASE.out | with_reducible refine below_drewN ?_ _ | with_reducible refine below_setCell' ?_ ?_ _)
  all_goals (first | exact Nat.le_refl _ | exact Nat.le_succ _)

set_option maxHeartbeats 1000000 in
set_option maxRecDepth 100000 in
theorem PtForce_ft (Q q : Int) (x y z m : Nat) (b3 b3' bM bM' : Bool) (h3 : ∀ w, Calls Tryz.prog 139 #[.int .u8 Q] w fun e w' => e = .returned (.bool b3) ∧ w' = w) (h3' : ∀ w, Calls Tryz.prog 139 #[.int .u8 q] w fun e w' => e = .returned (.bool b3') ∧ w' = w)
    (hM : ∀ w, Calls Tryz.prog 140 #[.int .u8 Q] w fun e w' => e = .returned (.bool bM) ∧ w' = w) (hM' : ∀ w, Calls Tryz.prog 140 #[.int .u8 q] w fun e w' => e = .returned (.bool bM') ∧ w' = w)
    (he3 : (b3 == b3') = false) (heM : (bM == bM') = true) (W : World) :
    Calls Tryz.prog 142 #[.agg #[.float .f64 x, .float .f64 y, .float .f64 z, .float .f64 m, .int .u8 q, .bool true], .int .u8 Q] W fun e w' => e = .returned (.agg #[.float .f64 x, .float .f64 y, .float .f64 0, .float .f64 m, .int .u8 Q, .bool true]) ∧ Below W.heap.size W w' := by
  have hbase : Below W.heap.size W ((W.alloc (.cells #[.float .f64 x, .float .f64 y, .float .f64 z, .float .f64 m, .int .u8 q, .bool true] 52)).alloc (.cells #[.float .f64 0, .float .f64 0, .float .f64 0, .float .f64 0, .int .u8 0, .bool false] 52)) := ((Below.refl W.heap.size W).alloc (Nat.le_refl _) _).alloc (by simp) _
  have HBASE := Lib.hid hbase
  clear hbase
  have HA := Lib.hid h3
  have HB := Lib.hid h3'
  have HC := Lib.hid hM
  have HD := Lib.hid hM'
  clear h3 h3' hM hM'
  go_enter Tryz.func142, Tryz.ntmps142
  go_wp2
  go_quiet ((go_at_call 139; first | with_reducible exact Calls.quiet_of_same (HA.out _) | with_reducible exact Calls.quiet_of_same (HB.out _)))
  go_wp2
  go_quiet ((go_at_call 140; first | with_reducible exact Calls.quiet_of_same (HC.out _) | with_reducible exact Calls.quiet_of_same (HD.out _)))
  go_wp2
  go_returns
  refine ⟨rfl, ?_⟩
  repeat (first | with_reducible exact HBASE.out | with_reducible refine below_drewN ?_ _ | with_reducible refine below_setCell' ?_ ?_ _)
  all_goals (first | exact Nat.le_refl _ | exact Nat.le_succ _)

set_option maxHeartbeats 1000000 in
set_option maxRecDepth 100000 in
theorem PtForce_ff (Q q : Int) (x y z m : Nat) (b3 b3' bM bM' : Bool) (h3 : ∀ w, Calls Tryz.prog 139 #[.int .u8 Q] w fun e w' => e = .returned (.bool b3) ∧ w' = w) (h3' : ∀ w, Calls Tryz.prog 139 #[.int .u8 q] w fun e w' => e = .returned (.bool b3') ∧ w' = w)
    (hM : ∀ w, Calls Tryz.prog 140 #[.int .u8 Q] w fun e w' => e = .returned (.bool bM) ∧ w' = w) (hM' : ∀ w, Calls Tryz.prog 140 #[.int .u8 q] w fun e w' => e = .returned (.bool bM') ∧ w' = w)
    (he3 : (b3 == b3') = false) (heM : (bM == bM') = false) (W : World) :
    Calls Tryz.prog 142 #[.agg #[.float .f64 x, .float .f64 y, .float .f64 z, .float .f64 m, .int .u8 q, .bool true], .int .u8 Q] W fun e w' => e = .returned (.agg #[.float .f64 x, .float .f64 y, .float .f64 0, .float .f64 0, .int .u8 Q, .bool true]) ∧ Below W.heap.size W w' := by
  have hbase : Below W.heap.size W ((W.alloc (.cells #[.float .f64 x, .float .f64 y, .float .f64 z, .float .f64 m, .int .u8 q, .bool true] 52)).alloc (.cells #[.float .f64 0, .float .f64 0, .float .f64 0, .float .f64 0, .int .u8 0, .bool false] 52)) := ((Below.refl W.heap.size W).alloc (Nat.le_refl _) _).alloc (by simp) _
  have HBASE := Lib.hid hbase
  clear hbase
  have HA := Lib.hid h3
  have HB := Lib.hid h3'
  have HC := Lib.hid hM
  have HD := Lib.hid hM'
  clear h3 h3' hM hM'
  go_enter Tryz.func142, Tryz.ntmps142
  go_wp2
  go_quiet ((go_at_call 139; first | with_reducible exact Calls.quiet_of_same (HA.out _) | with_reducible exact Calls.quiet_of_same (HB.out _)))
  go_wp2
  go_quiet ((go_at_call 140; first | with_reducible exact Calls.quiet_of_same (HC.out _) | with_reducible exact Calls.quiet_of_same (HD.out _)))
  go_wp2
  go_returns
  refine ⟨rfl, ?_⟩
  repeat (first | with_reducible exact HBASE.out | with_reducible refine below_drewN ?_ _ | with_reducible refine below_setCell' ?_ ?_ _)
  all_goals (first | exact Nat.le_refl _ | exact Nat.le_succ _)

theorem PtForce_full (Q q : Int) (x y z m : Nat) (b3 b3' bM bM' a3 aM : Bool) (h3 : ∀ w, Calls Tryz.prog 139 #[.int .u8 Q] w fun e w' => e = .returned (.bool b3) ∧ w' = w) (h3' : ∀ w, Calls Tryz.prog 139 #[.int .u8 q] w fun e w' => e = .returned (.bool b3') ∧ w' = w)
    (hM : ∀ w, Calls Tryz.prog 140 #[.int .u8 Q] w fun e w' => e = .returned (.bool bM) ∧ w' = w) (hM' : ∀ w, Calls Tryz.prog 140 #[.int .u8 q] w fun e w' => e = .returned (.bool bM') ∧ w' = w)
    (he3 : (b3 == b3') = a3) (heM : (bM == bM') = aM) (W : World) :
    Calls Tryz.prog 142 #[.agg #[.float .f64 x, .float .f64 y, .float .f64 z, .float .f64 m, .int .u8 q, .bool true], .int .u8 Q] W fun e w' => e = .returned (.agg #[.float .f64 x, .float .f64 y, .float .f64 (if a3 = true then z else 0), .float .f64 (if aM = true then m else 0), .int .u8 Q, .bool true]) ∧ Below W.heap.size W w' := by
  cases a3 <;> cases aM
  · exact PtForce_ff Q q x y z m b3 b3' bM bM' h3 h3' hM hM' he3 heM W
  · exact PtForce_ft Q q x y z m b3 b3' bM bM' h3 h3' hM hM' he3 heM W
  · exact PtForce_tf Q q x y z m b3 b3' bM bM' h3 h3' hM hM' he3 heM W
  · exact PtForce_tt Q q x y z m b3 b3' bM bM' h3 h3' hM hM' he3 heM W

set_option maxHeartbeats 1000000 in
set_option maxRecDepth 100000 in
theorem PtForce_none (Q q : Int) (x y z m : Nat) (W : World) :
    Calls Tryz.prog 142 #[.agg #[.float .f64 x, .float .f64 y, .float .f64 z, .float .f64 m, .int .u8 q, .bool false], .int .u8 Q] W fun e w' => e = .returned (.agg #[.float .f64 0, .float .f64 0, .float .f64 0, .float .f64 0, .int .u8 Q, .bool false]) ∧ Below W.heap.size W w' := by
  go_enter Tryz.func142, Tryz.ntmps142
  go_wp2_with fail
  have hb1 : Below W.heap.size W ((W.alloc (.cells #[.float .f64 x, .float .f64 y, .float .f64 z, .float .f64 m, .int .u8 q, .bool false] 52)).alloc (.cells #[.float .f64 0, .float .f64 0, .float .f64 0, .float .f64 0, .int .u8 0, .bool false] 52)) := ((Below.refl _ _).alloc (Nat.le_refl _) _).alloc (by simp) _
  have hx := Blk.new (W.alloc (.cells #[.float .f64 x, .float .f64 y, .float .f64 z, .float .f64 m, .int .u8 q, .bool false] 52)) 52 #[.float .f64 0, .float .f64 0, .float .f64 0, .float .f64 0, .int .u8 0, .bool false]
  have HX := Lib.hid hx
  have HB1 := Lib.hid hb1
  clear hx hb1
  refine (NewEmptyPoint_any Q _).mono ?_
  rintro e w1 ⟨rfl, b1⟩
  have x1 := HX.out.below b1 (by simp)
  rw [World.size_alloc] at x1
  obtain ⟨c0, c1, c2, c3, c4, c5⟩ := six_cells x1 (.float .f64 0) (.float .f64 0) (.float .f64 0) (.float .f64 0) (.int .u8 Q) (.bool false)
  have z0 := x1.frozen 0
  have z1 := x1.frozen 1
  have z2 := x1.frozen 2
  have z3 := x1.frozen 3
  have z4 := x1.frozen 4
  have z5 := x1.frozen 5
  have y0 := x1.cell 0
  have y1 := x1.cell 1
  have y2 := x1.cell 2
  have y3 := x1.cell 3
  have y4 := x1.cell 4
  have y5 := x1.cell 5
  simp at y0 y1 y2 y3 y4 y5
  have HB2 := Lib.hid (HB1.out.trans (b1.mono HB1.out.size))
  clear b1 x1
  go_wp2
  refine bodyPost_ret (by simp [results, Tryz.results142, go_sem, c0, c1, c2, c3, c4, c5]; try rfl) rfl ?_
  exact ⟨rfl, below_setCell' (below_setCell' (below_setCell' (below_setCell' (below_setCell' (below_setCell' HB2.out (Nat.le_succ _) _) (Nat.le_succ _) _) (Nat.le_succ _) _) (Nat.le_succ _) _) (Nat.le_succ _) _) (Nat.le_succ _) _⟩

theorem PtForce_G (Q : Int) (Q0 : 0 ≤ Q) (Q1 : Q ≤ 3) {ok : Nat → Prop} {x y z m : Nat} {q : Int} {f : Bool} {t : Gm} (W : World) (h : PtG W ok [.float .f64 x, .float .f64 y, .float .f64 z, .float .f64 m, .int .u8 q, .bool f] t) (_ : OkT t) :
    Calls Tryz.prog 142 #[.agg #[.float .f64 x, .float .f64 y, .float .f64 z, .float .f64 m, .int .u8 q, .bool f], .int .u8 Q] W fun e w' => ∃ (x' y' z' m' : Nat) (q' : Int) (f' : Bool), e = .returned (.agg #[.float .f64 x', .float .f64 y', .float .f64 z', .float .f64 m', .int .u8 q', .bool f']) ∧ PtG w' (fun b => ok b ∨ W.heap.size ≤ b) [.float .f64 x', .float .f64 y', .float .f64 z', .float .f64 m', .int .u8 q', .bool f'] (forceT Q t) ∧ Below W.heap.size W w' := by
  obtain ⟨x1, y1, z1, m1, q1', f1, e, q0, q1, hb, rfl⟩ := h
  simp only [List.cons.injEq, Value.float.injEq, Value.int.injEq, Value.bool.injEq, and_true, true_and] at e
  obtain ⟨rfl, rfl, rfl, rfl, rfl, rfl⟩ := e
  cases f
  · refine (PtForce_none Q q x y z m W).mono ?_
    rintro e w' ⟨rfl, hbl⟩
    refine ⟨0, 0, 0, 0, Q, false, rfl, ⟨0, 0, 0, 0, Q, false, rfl, Q0, Q1, by decide, ?_⟩, hbl⟩
    rw [forceT_mk]
    simp [plsNums, ptsN]
  · obtain ⟨b3, hb3, c3⟩ := is3D_cases Q Q0 Q1
    obtain ⟨b3', hb3', c3'⟩ := is3D_cases q q0 q1
    obtain ⟨bM, hbM, cM⟩ := isM_cases Q Q0 Q1
    obtain ⟨bM', hbM', cM'⟩ := isM_cases q q0 q1
    refine (PtForce_full Q q x y z m b3 b3' bM bM' (b3 == b3') (bM == bM') (is3D_any Q b3 c3) (is3D_any q b3' c3') (isM_any Q bM cM) (isM_any q bM' cM') rfl rfl W).mono ?_
    rintro e w' ⟨rfl, hbl⟩
    refine ⟨x, y, _, _, Q, true, rfl, ⟨x, y, _, _, Q, true, rfl, Q0, Q1, ⟨hb.1, hb.2.1, ?_, ?_⟩, ?_⟩, hbl⟩
    · split
      · exact hb.2.2.1
      · decide
    · split
      · exact hb.2.2.2
      · decide
    · rw [if_pos rfl, if_pos rfl]
      refine force_pt Q q Q0 Q1 q0 q1 x y z m _ _ (fun h => ?_) (fun h => ?_)
      · have e1 := hb3.2 h
        subst e1
        cases b3'
        · rw [if_neg (by decide), if_neg (fun h => by have := hb3'.2 h; cases this)]
        · rw [if_pos (by decide), if_pos (hb3'.1 rfl)]
      · have e1 := hbM.2 h
        subst e1
        cases bM'
        · rw [if_neg (by decide), if_neg (fun h => by have := hbM'.2 h; cases this)]
        · rw [if_pos (by decide), if_pos (hbM'.1 rfl)]

theorem bodyT_pt (hi lo : Nat → Int) (q : Int) (q0 : 0 ≤ q) (q1 : q ≤ 3) (p : Pl) : bodyT hi lo (.mk 1 q (plNums q p) []) = [40] ++ placeT hi lo q p ++ [41] := by
  rw [bodyT_mk]
  have e : partsB hi lo 1 q (plNums q p) [] = [placeT hi lo q p] := by
    unfold partsB
    rw [plNums_wd' q q0 q1, Nat.div_self (by have := wd_pos q; omega)]
    have e2 : placeT hi lo q (ptN q (plNums q p) 0) = placeT hi lo q p := by unfold placeT; rw [ptN_plNums q q0 q1]
    simp [ptsN, e2]
  rw [e]
  simp [listB, joinS]
theorem bodyT_pt0 (hi lo : Nat → Int) (q : Int) : bodyT hi lo (.mk 1 q [] []) = emptyB := by
  rw [bodyT_mk]
  unfold partsB
  simp [ptsN, listB]

set_option maxHeartbeats 4000000 in
set_option maxRecDepth 100000 in
theorem PtBody_G {ok : Nat → Prop} {x y z m : Nat} {q : Int} {f : Bool} {t : Gm} (hi lo : Nat → Int) (w : World) (h : PtG w ok [.float .f64 x, .float .f64 y, .float .f64 z, .float .f64 m, .int .u8 q, .bool f] t) (v : Value) (bs : List Int) (hbn : bs ≠ []) (hv : Own w v bs) (ht : FtTabs w hi lo)
    (hrow : ∀ k, k < 7 → v.ownBlock ≠ some k) (hl : bs.length ≤ 60000000000000) :
    Calls Tryz.prog 109 #[.agg #[.float .f64 x, .float .f64 y, .float .f64 z, .float .f64 m, .int .u8 q, .bool f], v] w fun e w' =>
      ∃ v', e = .returned v' ∧ Bf w w' v.ownBlock v' (bs ++ (sepO bs (bodyT hi lo t) ++ bodyT hi lo t)) := by
  obtain ⟨x1, y1, z1, m1, q1', f1, e, q0, q1, hb, rfl⟩ := h
  simp only [List.cons.injEq, Value.float.injEq, Value.int.injEq, Value.bool.injEq, and_true, true_and] at e
  obtain ⟨rfl, rfl, rfl, rfl, rfl, rfl⟩ := e
  obtain ⟨p1, p2, p3, p4⟩ := hb
  obtain ⟨nb, hnb⟩ : ∃ m, bs.length = m + 1 := ⟨bs.length - 1, by have := List.length_pos_iff.2 hbn; omega⟩
  have hb1 : Below w.heap.size w (w.alloc (.cells #[.float .f64 x, .float .f64 y, .float .f64 z, .float .f64 m, .int .u8 q, .bool f] 52)) := (Below.refl _ _).alloc (Nat.le_refl _) _
  have HO := Lib.hid (hv.alloc (.cells #[.float .f64 x, .float .f64 y, .float .f64 z, .float .f64 m, .int .u8 q, .bool f] 52))
  have HG0 := Lib.hid (World.grownBy_alloc w (.cells #[.float .f64 x, .float .f64 y, .float .f64 z, .float .f64 m, .int .u8 q, .bool f] 52) none)
  have HT := Lib.hid (ht.below hb1)
  have HNB := Lib.hid hnb
  clear hv ht hbn hnb
  cases f
  · have hbt := bodyT_pt0 hi lo q
    rw [if_neg (by decide)]
    generalize bodyT hi lo (.mk 1 q [] []) = BT at *
    have HBT := Lib.hid hbt
    clear hbt
    go_enter Tryz.func109, Tryz.ntmps109
    go_wp2_with fail
    refine (empty_any _ _ bs nb HNB.out HO.out (by omega)).mono ?_
    rintro e w3 ⟨v3, rfl, h3⟩
    have H3 := Lib.hid h3
    clear h3
    go_wp2
    go_ret
    refine ⟨_, rfl, ?_⟩
    have h3 := H3.out.pre_none HG0.out
    rw [HBT.out, ← sepO_empty]
    exact h3
  · have hbt := bodyT_pt hi lo q q0 q1 (x, y, z, m)
    rw [if_pos rfl]
    generalize bodyT hi lo (.mk 1 q (plNums q (x, y, z, m)) []) = BT at *
    have HBT := Lib.hid hbt
    clear hbt
    go_enter Tryz.func109, Tryz.ntmps109
    go_wp2_with fail
    refine (coords_any true q q0 q1 x y z m hi lo _ v bs HO.out HT.out p1 p2 p3 p4 hrow (by omega)).mono ?_
    rintro e w3 ⟨v3, rfl, h3⟩
    have H3 := Lib.hid h3
    clear h3
    go_wp2
    go_ret
    refine ⟨_, rfl, ?_⟩
    have h3 := H3.out.pre_none HG0.out
    rw [HBT.out, List.append_assoc, sepO_list, List.nil_append]
    simpa [coordW] using h3

/-- The text of a point within its parent. -/
theorem PtIn_G (K : Int) (hK : K ≠ 0) {ok : Nat → Prop} {x y z m : Nat} {q : Int} {f : Bool} {t : Gm} (hi lo : Nat → Int) (w : World) (h : PtG w ok [.float .f64 x, .float .f64 y, .float .f64 z, .float .f64 m, .int .u8 q, .bool f] t) (_ : OkT t) (v : Value) (bs : List Int) (hb : opensB bs) (hv : Own w v bs) (ht : FtTabs w hi lo)
    (hrow : ∀ k, k < 7 → v.ownBlock ≠ some k) (_ : ∀ b, ok b → b < w.heap.size → v.ownBlock ≠ some b) (hl : bs.length + 10000 * t.np ≤ 60000000000000) :
    Calls Tryz.prog 109 #[.agg #[.float .f64 x, .float .f64 y, .float .f64 z, .float .f64 m, .int .u8 q, .bool f], v] w fun e w' =>
      ∃ v', e = .returned v' ∧ Bf w w' v.ownBlock v' (bs ++ partT hi lo K t) := by
  refine (PtBody_G hi lo w h v bs hb.1 hv ht hrow (by omega)).mono ?_
  rintro e w' ⟨v', rfl, hB⟩
  refine ⟨v', rfl, ?_⟩
  rw [sepO_opens hb, List.nil_append] at hB
  unfold partT
  rw [if_neg hK]
  exact hB

theorem point_G {w0 : World} {B : Nat} {v : Value} {t : Gm} (h : GmAt w0 B v t) (hk : t.k = 1) (hs : t.sz ≤ 100000) (W : World) (hb : Below B w0 W) (hB : B ≤ W.heap.size) :
    Calls Tryz.prog 28 #[v] W fun e w' => ∃ (x y z m : Nat) (q : Int) (f : Bool), e = .returned (.agg #[.float .f64 x, .float .f64 y, .float .f64 z, .float .f64 m, .int .u8 q, .bool f]) ∧ PtG w' (fun b => W.heap.size ≤ b) [.float .f64 x, .float .f64 y, .float .f64 z, .float .f64 m, .int .u8 q, .bool f] (newT t) ∧ Below W.heap.size W w' := by
  cases h with
  | @mk k d ns ks n m A K c c' us en em hn hbs hcap hkk hss =>
    unfold Gm.k at hk
    simp only at hk
    subst hk
    unfold Gm.sz at hs
    have q0 : 0 ≤ d % 4 := by omega
    have q1 : d % 4 ≤ 3 := by omega
    have hwp := wd_pos (d % 4)
    have hnt : newT (.mk 1 d ns ks) = .mk 1 (d % 4) (ns.take (cutL 1 (d % 4) ns.length)) [] := by
      rw [newT_mk, show kindN 1 = 1 from rfl, if_pos (.inl rfl)]
    refine (point_any (K := K) (m := m) (c := c) (c' := c') d W (hn.below hb) hB (by omega)).mono ?_
    rintro e w' ⟨rfl, hb'⟩
    rw [hnt]
    unfold ptV cutL
    rw [if_pos rfl]
    by_cases hw : wd (d % 4) ≤ ns.length
    · rw [if_pos hw]
      refine ⟨_, _, _, _, _, _, rfl, ⟨_, _, _, _, d % 4, true, rfl, q0, q1, ptN_lt' (d % 4) ns 0 hbs, ?_⟩, hb'⟩
      have h1 : min (ns.length / wd (d % 4)) 1 = 1 := by
        have : 1 ≤ ns.length / wd (d % 4) := (Nat.one_le_div_iff (by omega)).2 hw
        omega
      rw [h1, if_pos rfl, Nat.one_mul]
      have h2 := plNums_ptN (d % 4) q0 q1 ns 0 (by rw [Nat.zero_add, Nat.one_mul]; exact hw)
      rw [Nat.zero_add, Nat.one_mul, Nat.zero_mul, List.take_zero, List.nil_append] at h2
      rw [h2]
    · rw [if_neg hw]
      refine ⟨_, _, _, _, _, _, rfl, ⟨0, 0, 0, 0, d % 4, false, rfl, q0, q1, by decide, ?_⟩, hb'⟩
      have h1 : ns.length / wd (d % 4) = 0 := Nat.div_eq_of_lt (by omega)
      rw [h1]
      simp

end Go.Proofs.YtpbcfgehmalppaaGreatDoor

/- Rows of points brought to a type; several points: brought to a type, made of points. -/
namespace Go.Proofs.YtpbcfgehmalppaaGreatDoor
open Go.RowKit Go.Proofs.YtpbcfgehmalppaaGreatDoorW.PrintLast

attribute [local go_sem] run_store_float

abbrev MpG := RowG PtG 52 6 4
theorem MpG.keeps : Keeps MpG := RowG.keeps PtG.keeps _ _ _
theorem MpG.nums {w : World} {ok : Nat → Prop} {x : List Value} {t : Gm} (h : MpG w ok x t) : NumT t := RowG.nums (fun _ _ _ _ h => h.nums) h
theorem info_pt : (Tryz.prog.info? 52).map (fun i => (i.zero, i.size, i.bytes)) = some (some (.agg #[.float .f64 0, .float .f64 0, .float .f64 0, .float .f64 0, .int .u8 0, .bool false]), 6, 48) := by kernel_rfl
theorem reads_new6 {w : World} {t g : Nat} {a b c d e f : Value} (hg : g = w.heap.size) : Reads (w.alloc (.cells #[a, b, c, d, e, f] t)) (w.heap.size + 1) 6 (some ⟨g, 0, none⟩) 1 [a, b, c, d, e, f] := by
  subst hg
  have h := Blk.new w t #[a, b, c, d, e, f]
  refine ⟨rfl, fun _ => ⟨_, rfl, Nat.lt_succ_self _, fun j u hu => ?_⟩⟩
  have ha : (⟨w.heap.size, 0, none⟩ : Addr).add j = ⟨w.heap.size, j, none⟩ := by unfold Addr.add; split <;> simp_all
  rw [ha, h.cell j]
  simpa using hu
theorem list6 {x : List Value} (h : x.length = 6) : ∃ a b c d e f, x = [a, b, c, d, e, f] := by
  match x, h with
  | [a, b, c, d, e, f], _ => exact ⟨a, b, c, d, e, f, rfl⟩
theorem flat_set6 {a b c d e f : Value} : ∀ {css : List (List Value)} {k : Nat}, (∀ x ∈ css, x.length = 6) → k < css.length → (css.set k [a, b, c, d, e, f]).flatten = (((((css.flatten.set (k * 6) a).set (k * 6 + 1) b).set (k * 6 + 2) c).set (k * 6 + 3) d).set (k * 6 + 4) e).set (k * 6 + 5) f
  | [], _, _, h => by simp at h
  | x :: css, 0, el, _ => by
    have hx := el x (List.mem_cons_self ..)
    obtain ⟨u, v, u', v', u'', v'', rfl⟩ := list6 hx
    rfl
  | x :: css, k + 1, el, h => by
    have hx := el x (List.mem_cons_self ..)
    have ih := flat_set6 (a := a) (b := b) (c := c) (d := d) (e := e) (f := f) (css := css) (k := k) (fun y hy => el y (List.mem_cons_of_mem _ hy)) (by simpa using h)
    obtain ⟨u, v, u', v', u'', v'', rfl⟩ := list6 hx
    rw [List.set_cons_succ, List.flatten_cons, List.flatten_cons, ih, show (k + 1) * 6 = k * 6 + 1 + 1 + 1 + 1 + 1 + 1 by omega]
    rfl

set_option maxHeartbeats 8000000 in
set_option maxRecDepth 100000 in
theorem PtSlice_G (Q : Int) (Q0 : 0 ≤ Q) (Q1 : Q ≤ 3) {ok : Nat → Prop} {A : Option Addr} {n c : Nat} {ts : List Gm} (W : World) (h : KRow PtG 52 6 W ok (.slice A n c) ts) (hrl : ts.length = n) (hok : ∀ t ∈ ts, OkT t) (hn : n ≤ 100000) :
    Calls Tryz.prog 136 #[.slice A n c, .int .u8 Q] W fun e w' => ∃ (A' : Option Addr) (c' : Nat), e = .returned (.slice A' n c') ∧ KRow PtG 52 6 w' (fun b => W.heap.size ≤ b) (.slice A' n c') (ts.map (forceT Q)) ∧ Below W.heap.size W w' := by
  obtain ⟨i0, hi0, hz0, hz1, hz2⟩ := info_parts info_pt
  have hmk : ∀ w : World, (Instr.makeSlice 103 (.int .i64 (n : Int)) (.int .i64 (n : Int))).run Tryz.prog w = .ok (.slice (some ⟨w.heap.size, 0, none⟩) n n) (w.alloc (.cells (madeCells #[.float .f64 0, .float .f64 0, .float .f64 0, .float .f64 0, .int .u8 0, .bool false] (n * 6)) 52)) := fun w => by
    have h := run_make_rowN (P := Tryz.prog) 103 52 i0 (.agg #[.float .f64 0, .float .f64 0, .float .f64 0, .float .f64 0, .int .u8 0, .bool false]) Tryz.underlying103 hi0 hz0 .i64 .i64 n n (Nat.le_refl _) (by rw [hz2]; omega) (by omega) w
    rw [hz1] at h
    exact h
  obtain ⟨css, ho3, hf3⟩ := row_made (R := PtG) (sz := 6) (e := 52) (w := W) (ok := fun b => W.heap.size + 1 ≤ b) (ts := ts.map (forceT Q)) (n := n) (cur := madeCells #[.float .f64 0, .float .f64 0, .float .f64 0, .float .f64 0, .int .u8 0, .bool false] (n * 6)) (by rw [List.length_map]; exact hrl) (size_madeCells _ _) hn
  have hb3 : Below W.heap.size W (W.alloc (.cells (madeCells #[.float .f64 0, .float .f64 0, .float .f64 0, .float .f64 0, .int .u8 0, .bool false] (n * 6)) 52)) := (Below.refl _ _).alloc (Nat.le_refl _) _
  have hs3 : W.heap.size + 1 ≤ (W.alloc (.cells (madeCells #[.float .f64 0, .float .f64 0, .float .f64 0, .float .f64 0, .int .u8 0, .bool false] (n * 6)) 52)).heap.size := by simp
  have H := Lib.hid h
  have HRL := Lib.hid hrl
  have HOK := Lib.hid hok
  clear h hrl hok
  go_enter Tryz.func136, Tryz.ntmps136
  go_wp2_with fail
  generalize W.alloc (.cells (madeCells #[.float .f64 0, .float .f64 0, .float .f64 0, .float .f64 0, .int .u8 0, .bool false] (n * 6)) 52) = w3 at *
  have HO3 := Lib.hid ho3
  have HF3 := Lib.hid hf3
  have HB3 := Lib.hid hb3
  clear ho3 hf3 hb3
  go_loopw [13] (fun i wr => ∃ (k : Nat) (cs : List (List Value)), k ≤ n ∧ i = .int .i64 k ∧ wr.ownsRow 0 52 6 (.slice (some ⟨W.heap.size, 0, none⟩) n n) n cs.flatten ∧ FillG PtG 6 wr (fun b => W.heap.size + 1 ≤ b) (ts.map (forceT Q)) k cs ∧ Below W.heap.size W wr ∧ W.heap.size + 1 ≤ wr.heap.size) (fun i _ => n - (intOf i).toNat)
  case atStart => exact ⟨0, css, Nat.zero_le _, rfl, HO3.out, HF3.out, HB3.out, hs3⟩
  case round =>
    obtain ⟨k, cs, hk, rfl, ow, md, hbr, hsr⟩ := hrel
    by_cases hlt : k < n
    · obtain ⟨g, x, s, rfl, hgok, hr, hxl, hcl, hrs, hgl⟩ := row_at HRL.out H.out hlt
      replace hgl := hgl (by decide)
      have hsm : s ∈ ts := List.mem_of_getElem? hr
      obtain ⟨rx, ry, rz, rm, rq, rf, rfl, -⟩ := hrs.shape
      have j0 := (hbr.cell (p := ⟨g, k * 6 + 0, none⟩) hgl).trans (hcl 0 _ rfl)
      have j1 := (hbr.cell (p := ⟨g, k * 6 + 1, none⟩) hgl).trans (hcl 1 _ rfl)
      have j2 := (hbr.cell (p := ⟨g, k * 6 + 2, none⟩) hgl).trans (hcl 2 _ rfl)
      have j3 := (hbr.cell (p := ⟨g, k * 6 + 3, none⟩) hgl).trans (hcl 3 _ rfl)
      have j4 := (hbr.cell (p := ⟨g, k * 6 + 4, none⟩) hgl).trans (hcl 4 _ rfl)
      have j5 := (hbr.cell (p := ⟨g, k * 6 + 5, none⟩) hgl).trans (hcl 5 _ rfl)
      rw [Nat.add_zero] at j0
      have hclen : k < cs.length := by rw [md.1, List.length_map, HRL.out]; exact hlt
      have hck : cs[k]? = some (cs[k]'hclen) := List.getElem?_eq_getElem _
      generalize (cs[k]'hclen) = z at hck
      obtain ⟨za, zb, zc, zd, ze, zf, rfl⟩ := list6 (md.2.1 z (List.mem_of_getElem? hck))
      have ad : ∀ g j : Nat, (⟨g, 0, none⟩ : Addr).add j = ⟨g, j, none⟩ := fun g j => by unfold Addr.add; split <;> simp_all
      have kk : ∀ (j : Nat) (u : Value), j < 6 → [za, zb, zc, zd, ze, zf][j]? = some u → wr.cell? ⟨W.heap.size, k * 6 + j, none⟩ = some u := fun j u hj hu => by
        have := ow.cells (g := W.heap.size) rfl (k * 6 + j) u (by rw [flat_at md.2.1 hck hj]; exact hu)
        rwa [ad] at this
      have hrk : (ts.map (forceT Q))[k]? = some (forceT Q s) := by rw [List.getElem?_map, hr]; rfl
      have HCALL := Lib.hid (PtForce_G Q Q0 Q1 (wr.alloc (.cells #[.float .f64 rx, .float .f64 ry, .float .f64 rz, .float .f64 rm, .int .u8 rq, .bool rf] 52)) (PtG.any (ok' := fun _ => True) hrs) (HOK.out s hsm))
      have HKK := Lib.hid kk
      have OW := Lib.hid ow
      have MD := Lib.hid md
      have HBR := Lib.hid hbr
      have HRK := Lib.hid hrk
      clear ow md hbr hr hck hcl hrs hrk hsm kk
      go_wp2_with fail
      refine HCALL.out.mono ?_
      rintro e w5 ⟨yx, yy, yz, ym, yq, yf, rfl, h5, b5'⟩
      have b5 : Below wr.heap.size wr w5 := ((Below.refl wr.heap.size wr).alloc (Nat.le_refl _) _).trans (b5'.mono (by simp))
      have o5 : w5.ownsRow 0 52 6 (.slice (some ⟨W.heap.size, 0, none⟩) n n) n cs.flatten := own_keep OW.out (fun b _ hb => b5.block b hb)
      have y0 := own_frozen o5 (g := W.heap.size) rfl (k * 6)
      have y1 := own_frozen o5 (g := W.heap.size) rfl (k * 6 + 1)
      have y2 := own_frozen o5 (g := W.heap.size) rfl (k * 6 + 2)
      have y3 := own_frozen o5 (g := W.heap.size) rfl (k * 6 + 3)
      have y4 := own_frozen o5 (g := W.heap.size) rfl (k * 6 + 4)
      have y5 := own_frozen o5 (g := W.heap.size) rfl (k * 6 + 5)
      have q0 := (b5.cell (p := ⟨W.heap.size, k * 6 + 0, none⟩) (by show W.heap.size < _; omega)).trans (HKK.out 0 _ (by omega) rfl)
      have q1 := (b5.cell (p := ⟨W.heap.size, k * 6 + 1, none⟩) (by show W.heap.size < _; omega)).trans (HKK.out 1 _ (by omega) rfl)
      have q2 := (b5.cell (p := ⟨W.heap.size, k * 6 + 2, none⟩) (by show W.heap.size < _; omega)).trans (HKK.out 2 _ (by omega) rfl)
      have q3 := (b5.cell (p := ⟨W.heap.size, k * 6 + 3, none⟩) (by show W.heap.size < _; omega)).trans (HKK.out 3 _ (by omega) rfl)
      have q4 := (b5.cell (p := ⟨W.heap.size, k * 6 + 4, none⟩) (by show W.heap.size < _; omega)).trans (HKK.out 4 _ (by omega) rfl)
      have q5 := (b5.cell (p := ⟨W.heap.size, k * 6 + 5, none⟩) (by show W.heap.size < _; omega)).trans (HKK.out 5 _ (by omega) rfl)
      rw [Nat.add_zero] at q0
      have O5 := Lib.hid o5
      have H5 := Lib.hid h5
      have B5 := Lib.hid b5
      clear o5 h5 b5 b5' j0 j1 j2 j3 j4 j5
      go_wp2
      go_roundw
      case rel =>
        have hfl : cs.flatten.length = n * 6 := OW.out.1
        have hs5 := B5.out.size
        have hbl : ∀ b, b ≠ W.heap.size → ((((((w5.setCell ⟨W.heap.size, k * 6, none⟩ (.float .f64 yx)).setCell ⟨W.heap.size, k * 6 + 1, none⟩ (.float .f64 yy)).setCell ⟨W.heap.size, k * 6 + 2, none⟩ (.float .f64 yz)).setCell ⟨W.heap.size, k * 6 + 3, none⟩ (.float .f64 ym)).setCell ⟨W.heap.size, k * 6 + 4, none⟩ (.int .u8 yq)).setCell ⟨W.heap.size, k * 6 + 5, none⟩ (.bool yf)).heap[b]? = w5.heap[b]? := fun b hb => by
          rw [Below.heap_setCell _ _ _ b hb, Below.heap_setCell _ _ _ b hb, Below.heap_setCell _ _ _ b hb, Below.heap_setCell _ _ _ b hb, Below.heap_setCell _ _ _ b hb, Below.heap_setCell _ _ _ b hb]
        refine ⟨k + 1, cs.set k [.float .f64 yx, .float .f64 yy, .float .f64 yz, .float .f64 ym, .int .u8 yq, .bool yf], by omega, by go_num, ?_, FillG.next (FillG.keep PtG.keeps MD.out (fun b hb hl => (hbl b (by omega)).trans (B5.out.block b hl)) (fun b hb _ => hb)) HRK.out rfl (PtG.any H5.out), ?_, by simp [World.setCell]; omega⟩
        · rw [flat_set6 MD.out.2.1 hclen]
          exact own_store (own_store (own_store (own_store (own_store (own_store O5.out rfl (by rw [hfl]; omega) _) rfl (by simp only [List.length_set, hfl]; omega) _) rfl (by simp only [List.length_set, hfl]; omega) _) rfl (by simp only [List.length_set, hfl]; omega) _) rfl (by simp only [List.length_set, hfl]; omega) _) rfl (by simp only [List.length_set, hfl]; omega) _
        · exact below_setCell' (below_setCell' (below_setCell' (below_setCell' (below_setCell' (below_setCell' (HBR.out.trans (B5.out.mono HBR.out.size)) (Nat.le_refl _) _) (Nat.le_refl _) _) (Nat.le_refl _) _) (Nat.le_refl _) _) (Nat.le_refl _) _) (Nat.le_refl _) _
      case measure => simp [intOf]; omega
    · obtain rfl : n = k := by omega
      have hrow : KRow PtG 52 6 wr (fun b => W.heap.size ≤ b) (.slice (some ⟨W.heap.size, 0, none⟩) n n) (ts.map (forceT Q)) :=
        FillG.row PtG.keeps md (by rw [List.length_map, HRL.out]) ow (fun b hb => ⟨by omega, by omega⟩) (Nat.le_refl _)
      have ROW := Lib.hid hrow
      have HBR := Lib.hid hbr
      clear hrow hbr ow md
      go_wp2
      go_ret
      exact ⟨_, _, rfl, ROW.out, HBR.out⟩

end Go.Proofs.YtpbcfgehmalppaaGreatDoor

/- Several points: their type, made of points, brought to a type. -/
namespace Go.Proofs.YtpbcfgehmalppaaGreatDoor
open Go.RowKit Go.Proofs.YtpbcfgehmalppaaGreatDoorW.PrintLast

attribute [local go_sem] run_store_float

set_option maxRecDepth 100000 in
theorem MpCT (A : Option Addr) (n c : Nat) (q : Int) (w : World) : Calls Tryz.prog 102 #[.agg #[.slice A n c, .int .u8 q]] w fun e w' => e = .returned (.int .u8 q) ∧ Below w.heap.size w w' := by
  go_enter Tryz.func102, Tryz.ntmps102
  go_wp2
  go_ret
  exact ⟨rfl, (Below.refl _ _).alloc (Nat.le_refl _) _⟩
theorem MpCT_G {ok : Nat → Prop} {A : Option Addr} {n c : Nat} {q : Int} {t : Gm} (W : World) (h : MpG W ok [.slice A n c, .int .u8 q] t) :
    Calls Tryz.prog 102 #[.agg #[.slice A n c, .int .u8 q]] W fun e w' => e = .returned (.int .u8 t.d) ∧ Below W.heap.size W w' := by
  obtain ⟨A', n', c', q', e, hd, -⟩ := RowG.shape h
  simp only [List.cons.injEq, Value.int.injEq, and_true, true_and] at e
  rw [hd, ← e.2]
  exact MpCT A n c q W
theorem info_Mp : (Tryz.prog.info? 105).map (fun i => (i.zero, i.size, i.bytes)) = some (some (.agg #[.slice none 0 0, .int .u8 0]), 2, 32) := by kernel_rfl
theorem MpG.shape {w : World} {ok : Nat → Prop} {x : List Value} {t : Gm} (h : MpG w ok x t) : ∃ (A : Option Addr) (n c : Nat) (q : Int), x = [.slice A n c, .int .u8 q] ∧ t.d = q ∧ 0 ≤ q ∧ q ≤ 3 := RowG.shape h

set_option maxHeartbeats 8000000 in
set_option maxRecDepth 100000 in
theorem NewMultiPoint_G {ok : Nat → Prop} {A : Option Addr} {n c : Nat} {ts : List Gm} (W : World) (h : KRow PtG 52 6 W ok (.slice A n c) ts) (hrl : ts.length = n) (hok : ∀ t ∈ ts, OkT t) (hn : n ≤ 100000) (hn0 : 0 < n) :
    Calls Tryz.prog 119 #[.slice A n c] W fun e w' => ∃ (A' : Option Addr) (n' c' : Nat) (q' : Int), e = .returned (.agg #[.slice A' n' c', .int .u8 q']) ∧ MpG w' (fun b => ok b ∨ W.heap.size ≤ b) [.slice A' n' c', .int .u8 q'] (.mk 4 (ctF ts) [] (ts.map (forceT (ctF ts)))) ∧ Below W.heap.size W w' := by
  have hd : ((n : Int) == 0) = false := by rw [beq_eq_false_iff_ne]; omega
  have H := Lib.hid h
  have HRL := Lib.hid hrl
  have HOK := Lib.hid hok
  clear h hrl hok
  go_enter Tryz.func119, Tryz.ntmps119
  go_wp2_with fail
  have hb3 : Below W.heap.size W (W.alloc (.cells #[.slice none 0 0, .int .u8 0] 105)) := (Below.refl _ _).alloc (Nat.le_refl _) _
  have x3 := Blk.new W 105 #[.slice none 0 0, .int .u8 0]
  have hs3 : W.heap.size + 1 ≤ (W.alloc (.cells #[.slice none 0 0, .int .u8 0] 105)).heap.size := by simp
  generalize W.alloc (.cells #[.slice none 0 0, .int .u8 0] 105) = w3 at *
  have X3 := Lib.hid x3
  have HB3 := Lib.hid hb3
  clear x3 hb3
  go_loopw [3, 13] (fun u i wr => ∃ (k : Nat), k ≤ n ∧ i = .int .i64 k ∧ u = .int .u8 (ctF (ts.take k)) ∧ 0 ≤ ctF (ts.take k) ∧ ctF (ts.take k) ≤ 3 ∧ Blk wr W.heap.size 105 #[.slice none 0 0, .int .u8 0] ∧ Below W.heap.size W wr ∧ W.heap.size + 1 ≤ wr.heap.size) (fun _ i _ => n - (intOf i).toNat)
  case atStart => exact ⟨0, Nat.zero_le _, rfl, rfl, by show (0 : Int) ≤ 3; decide, by show (3 : Int) ≤ 3; decide, X3.out, HB3.out, hs3⟩
  case round =>
    obtain ⟨k, hk, rfl, rfl, t0, t1, x0, hbr, hsr⟩ := hrel
    by_cases hlt : k < n
    · obtain ⟨g, x, s, rfl, hgok, hr, hxl, hcl, hrs, hgl⟩ := row_at HRL.out H.out hlt
      replace hgl := hgl (by decide)
      obtain ⟨rx, ry, rz, rm, rq, rf, rfl, -⟩ := hrs.shape
      obtain ⟨s0, s1⟩ : 0 ≤ s.d ∧ s.d ≤ 3 := (HOK.out s (List.mem_of_getElem? hr)).dr
      have hct : ctF (ts.take (k + 1)) = dand (ctF (ts.take k)) s.d := by
        unfold ctF
        rw [List.take_add_one, hr, Option.toList_some, List.foldl_append]
        rfl
      obtain ⟨v0, v1⟩ := dand_range t0 t1 s0 s1
      have hdu := dand_u8 t0 t1 s0 s1
      have j0 := (hbr.cell (p := ⟨g, k * 6 + 0, none⟩) hgl).trans (hcl 0 _ rfl)
      have j1 := (hbr.cell (p := ⟨g, k * 6 + 1, none⟩) hgl).trans (hcl 1 _ rfl)
      have j2 := (hbr.cell (p := ⟨g, k * 6 + 2, none⟩) hgl).trans (hcl 2 _ rfl)
      have j3 := (hbr.cell (p := ⟨g, k * 6 + 3, none⟩) hgl).trans (hcl 3 _ rfl)
      have j4 := (hbr.cell (p := ⟨g, k * 6 + 4, none⟩) hgl).trans (hcl 4 _ rfl)
      have j5 := (hbr.cell (p := ⟨g, k * 6 + 5, none⟩) hgl).trans (hcl 5 _ rfl)
      rw [Nat.add_zero] at j0
      have hcall := PtCT_G (wr.alloc (.cells #[.float .f64 rx, .float .f64 ry, .float .f64 rz, .float .f64 rm, .int .u8 rq, .bool rf] 52)) (PtG.keeps _ _ _ (fun b => b < W.heap.size) _ _ hrs (fun b _ hl => (Below.heap_alloc wr _ b (by omega)).trans (hbr.block b hl)) (fun b _ hl => hl))
      generalize ctF (ts.take k) = ct at *
      have HCT := Lib.hid hct
      have HDU := Lib.hid hdu
      have HBR := Lib.hid hbr
      have X0 := Lib.hid x0
      have HCALL := Lib.hid hcall
      clear hct hdu hbr x0 hr hcl hcall hrs
      generalize s.d = sq at *
      go_wp2_with fail
      refine HCALL.out.mono ?_
      rintro e w5 ⟨rfl, h5⟩
      have hb5 : Below wr.heap.size wr w5 := ((Below.refl _ _).alloc (Nat.le_refl _) _).trans (h5.mono (by simp))
      have HB5 := Lib.hid hb5
      clear h5 hb5
      go_wp2
      go_roundw
      case rel =>
        refine ⟨k + 1, by omega, by go_num, by rw [HCT.out, ← HDU.out], by rw [HCT.out]; exact v0, by rw [HCT.out]; exact v1, X0.out.below HB5.out X0.out.lt, HBR.out.trans (HB5.out.mono HBR.out.size), by have := HB5.out.size; omega⟩
      case measure => simp [intOf]; omega
    · obtain rfl : n = k := by omega
      rw [List.take_of_length_le (by rw [HRL.out]; exact Nat.le_refl _)] at t0 t1
      rw [List.take_of_length_le (by rw [HRL.out]; exact Nat.le_refl _)]
      generalize hCT : ctF ts = ct at *
      have HC0 := Lib.hid hCT
      clear hCT
      have HSL := Lib.hid (PtSlice_G ct t0 t1 wr (KRow.keep PtG.keeps H.out (fun b _ hl => hbr.block b hl) (fun b h _ => h)) HRL.out HOK.out hn)
      have HBR := Lib.hid hbr
      have X0 := Lib.hid x0
      clear hbr x0
      go_wp2_with fail
      refine HSL.out.mono ?_
      rintro e w5 ⟨A5, c5, rfl, k5, b5⟩
      have x0 := X0.out.below b5 X0.out.lt
      have c0 := x0.cell 0
      have c1' := x0.cell 1
      have z0 := x0.frozen 0
      have z1 := x0.frozen 1
      simp at c0 c1'
      have e0 : (w5.setCell ⟨W.heap.size, 0, none⟩ (.slice A5 n c5)).cell? ⟨W.heap.size, 0, none⟩ = some (.slice A5 n c5) := by simpa using (x0.set_ 0 (.slice A5 n c5)).cell 0
      have e1 : ((w5.setCell ⟨W.heap.size, 0, none⟩ (.slice A5 n c5)).setCell ⟨W.heap.size, 1, none⟩ (.int .u8 ct)).cell? ⟨W.heap.size, 1, none⟩ = some (.int .u8 ct) := by simpa using ((x0.set_ 0 (.slice A5 n c5)).set_ 1 (.int .u8 ct)).cell 1
      have ROW := Lib.hid k5
      have HB5 := Lib.hid (HBR.out.trans (b5.mono HBR.out.size))
      clear k5 b5 x0
      go_wp2
      refine bodyPost_ret (by simp [results, Tryz.results119, go_sem, e0, e1]; try rfl) rfl ?_
      rw [HC0.out]
      refine ⟨A5, n, c5, ct, rfl, ⟨A5, n, c5, ct, _, rfl, rfl, t0, t1, by rw [List.length_map, HRL.out], hn, KRow.keep PtG.keeps ROW.out (fun b hb _ => ?_) (fun b hb _ => .inr (by have := HBR.out.size; omega))⟩, ?_⟩
      · have hne : b ≠ W.heap.size := by omega
        rw [Below.heap_setCell _ _ _ b hne, Below.heap_setCell _ _ _ b hne]
      · exact below_setCell' (below_setCell' HB5.out (Nat.le_refl _) _) (Nat.le_refl _) _

set_option maxHeartbeats 8000000 in
set_option maxRecDepth 100000 in
theorem MpForce_raw (Q : Int) (Q0 : 0 ≤ Q) (Q1 : Q ≤ 3) {ok : Nat → Prop} {A : Option Addr} {n c : Nat} (q : Int) {ts : List Gm} (W : World) (h : KRow PtG 52 6 W ok (.slice A n c) ts) (hrl : ts.length = n) (hok : ∀ t ∈ ts, OkT t) (hn : n ≤ 100000) :
    Calls Tryz.prog 118 #[.agg #[.slice A n c, .int .u8 q], .int .u8 Q] W fun e w' => ∃ (A' : Option Addr) (n' c' : Nat) (q' : Int), e = .returned (.agg #[.slice A' n' c', .int .u8 q']) ∧ MpG w' (fun b => ok b ∨ W.heap.size ≤ b) [.slice A' n' c', .int .u8 q'] (.mk 4 Q [] (ts.map (forceT Q))) ∧ Below W.heap.size W w' := by
  have hb2 : Below W.heap.size W ((W.alloc (.cells #[.slice A n c, .int .u8 q] 105)).alloc (.cells #[.slice none 0 0, .int .u8 0] 105)) := ((Below.refl _ _).alloc (Nat.le_refl _) _).alloc (by simp) _
  have b1 := Blk.new (W.alloc (.cells #[.slice A n c, .int .u8 q] 105)) 105 #[.slice none 0 0, .int .u8 0]
  have HSL := Lib.hid (PtSlice_G Q Q0 Q1 ((W.alloc (.cells #[.slice A n c, .int .u8 q] 105)).alloc (.cells #[.slice none 0 0, .int .u8 0] 105)) (KRow.keep PtG.keeps h (fun b _ hl => hb2.block b hl) (fun b h _ => h)) hrl hok hn)
  have hsz2 : ((W.alloc (.cells #[.slice A n c, .int .u8 q] 105)).alloc (.cells #[.slice none 0 0, .int .u8 0] 105)).heap.size = W.heap.size + 2 := by simp
  rw [World.size_alloc] at b1
  have B1 := Lib.hid b1
  have HB2 := Lib.hid hb2
  have HRL := Lib.hid hrl
  have HS2 := Lib.hid hsz2
  clear b1 hb2 h hrl hok hsz2
  go_enter Tryz.func118, Tryz.ntmps118
  go_wp2_with fail
  refine HSL.out.mono ?_
  rintro e w5 ⟨A5, c5, rfl, k5, b5⟩
  have x0 := B1.out.below b5 B1.out.lt
  have c0 := x0.cell 0
  have c1' := x0.cell 1
  have z0 := x0.frozen 0
  have z1 := x0.frozen 1
  simp at c0 c1'
  have e0 : (w5.setCell ⟨W.heap.size + 1, 0, none⟩ (.slice A5 n c5)).cell? ⟨W.heap.size + 1, 0, none⟩ = some (.slice A5 n c5) := by simpa using (x0.set_ 0 (.slice A5 n c5)).cell 0
  have e1 : ((w5.setCell ⟨W.heap.size + 1, 0, none⟩ (.slice A5 n c5)).setCell ⟨W.heap.size + 1, 1, none⟩ (.int .u8 Q)).cell? ⟨W.heap.size + 1, 1, none⟩ = some (.int .u8 Q) := by simpa using ((x0.set_ 0 (.slice A5 n c5)).set_ 1 (.int .u8 Q)).cell 1
  have ROW := Lib.hid k5
  have HB5 := Lib.hid (HB2.out.trans (b5.mono HB2.out.size))
  clear k5 b5 x0
  go_wp2
  refine bodyPost_ret (by simp [results, Tryz.results118, go_sem, e0, e1]; try rfl) rfl ?_
  refine ⟨A5, n, c5, Q, rfl, ⟨A5, n, c5, Q, _, rfl, rfl, Q0, Q1, by rw [List.length_map, HRL.out], hn, KRow.keep PtG.keeps ROW.out (fun b hb _ => ?_) (fun b hb _ => .inr (by have := HS2.out; omega))⟩, ?_⟩
  · have hne : b ≠ W.heap.size + 1 := by have := HS2.out; omega
    rw [Below.heap_setCell _ _ _ b hne, Below.heap_setCell _ _ _ b hne]
  · exact below_setCell' (below_setCell' HB5.out (Nat.le_succ _) _) (Nat.le_succ _) _

theorem MpForce_G (Q : Int) (Q0 : 0 ≤ Q) (Q1 : Q ≤ 3) {ok : Nat → Prop} {A : Option Addr} {n c : Nat} {q : Int} {t : Gm} (W : World) (h : MpG W ok [.slice A n c, .int .u8 q] t) (ho : OkT t) :
    Calls Tryz.prog 118 #[.agg #[.slice A n c, .int .u8 q], .int .u8 Q] W fun e w' => ∃ (A' : Option Addr) (n' c' : Nat) (q' : Int), e = .returned (.agg #[.slice A' n' c', .int .u8 q']) ∧ MpG w' (fun b => ok b ∨ W.heap.size ≤ b) [.slice A' n' c', .int .u8 q'] (forceT Q t) ∧ Below W.heap.size W w' := by
  obtain ⟨A', n', c', q', ks, rfl, e, h0, h1, hl, hn, hr⟩ := h
  simp only [List.cons.injEq, Value.slice.injEq, Value.int.injEq, and_true, true_and] at e
  obtain ⟨⟨rfl, rfl, rfl⟩, rfl⟩ := e
  rw [forceT_mk, row_force_nil]
  cases ho with
  | mk d0 d1 hn' hm hk => exact MpForce_raw Q Q0 Q1 q W hr hl hk hn

end Go.Proofs.YtpbcfgehmalppaaGreatDoor

/- Geometries of parts made of plain data. -/
namespace Go.Proofs.YtpbcfgehmalppaaGreatDoor
open Go.RowKit Go.Proofs.YtpbcfgehmalppaaGreatDoorW.PrintLast

attribute [local go_sem] run_store_float

set_option maxHeartbeats 8000000 in
set_option maxRecDepth 100000 in
theorem multiPoint_G {w0 : World} {B : Nat} {v : Value} {t : Gm} (h : GmAt w0 B v t) (hk : t.k = 4) (hs : t.sz ≤ 100000) (W : World) (hb : Below B w0 W) (hB : B ≤ W.heap.size) :
    Calls Tryz.prog 75 #[v] W fun e w' => ∃ (A : Option Addr) (n c : Nat) (q : Int), e = .returned (.agg #[.slice A n c, .int .u8 q]) ∧ MpG w' (fun b => W.heap.size ≤ b) [.slice A n c, .int .u8 q] (newT t) ∧ Below W.heap.size W w' := by
  cases h with
  | @mk k d ns ks n m A K c c' us en em hn hbs hcap hkk hss =>
  unfold Gm.k at hk
  simp only at hk
  subst hk
  unfold Gm.sz at hs
  have hlen := szs_len ks
  have hmm : m ≤ 100000 := by omega
  have hnt : newT (.mk 4 d ns ks) = partsT 4 (d % 4) ((ks.map newT).filter (keepT 4)) := by
    rw [newT_mk, if_neg (by decide)]
    rfl
  have q0 : 0 ≤ d % 4 := by omega
  have q1 : d % 4 ≤ 3 := by omega
  rw [hnt]
  generalize hT : partsT 4 (d % 4) ((ks.map newT).filter (keepT 4)) = T
  have HPT := Lib.hid hT
  clear hT
  have HK := Lib.hid hkk
  have HS := Lib.hid hss
  have HEM := Lib.hid em
  have HBL := Lib.hid hb
  have b0 := (Blk.new W 25 #[.int .i64 4, .int .i64 d, .slice A n c, .slice K m c']).alloc (.cells #[.slice none 0 0, .int .u8 0] 105)
  have b1 := Blk.new (W.alloc (.cells #[.int .i64 4, .int .i64 d, .slice A n c, .slice K m c'] 25)) 105 #[.slice none 0 0, .int .u8 0]
  have hbw : Below W.heap.size W ((W.alloc (.cells #[.int .i64 4, .int .i64 d, .slice A n c, .slice K m c'] 25)).alloc (.cells #[.slice none 0 0, .int .u8 0] 105)) := ((Below.refl W.heap.size W).alloc (Nat.le_refl _) _).alloc (by simp) _
  have hsz3 : W.heap.size + 2 ≤ ((W.alloc (.cells #[.int .i64 4, .int .i64 d, .slice A n c, .slice K m c'] 25)).alloc (.cells #[.slice none 0 0, .int .u8 0] 105)).heap.size := by simp
  rw [World.size_alloc] at b1
  have B0 := Lib.hid b0
  have B1 := Lib.hid b1
  have HB3 := Lib.hid hbw
  clear hkk hss em hb b0 b1 hbw hn hbs hcap en hnt
  go_enter Tryz.func75, Tryz.ntmps75
  go_wp2_with fail
  generalize (W.alloc (.cells #[.int .i64 4, .int .i64 d, .slice A n c, .slice K m c'] 25)).alloc (.cells #[.slice none 0 0, .int .u8 0] 105) = w3 at *
  go_loopw [3, 9] (fun u i wr => ∃ q : Nat, q ≤ m ∧ i = .int .i64 q ∧ Blk wr W.heap.size 25 #[.int .i64 4, .int .i64 d, .slice A n c, .slice K m c'] ∧ Blk wr (W.heap.size + 1) 105 #[.slice none 0 0, .int .u8 0] ∧
    KRow PtG 52 6 wr (fun b => W.heap.size + 2 ≤ b) u (((ks.take q).map newT).filter (keepT 4)) ∧ Below W.heap.size W wr ∧ W.heap.size + 2 ≤ wr.heap.size) (fun _ i _ => m - (intOf i).toNat)
  case atStart => exact ⟨0, Nat.zero_le _, rfl, B0.out, B1.out, KRow.nil _ _, HB3.out, hsz3⟩
  case round =>
    obtain ⟨q, hq, rfl, x0, x1, kr, hbr, hsr⟩ := hrel
    by_cases hlt : q < m
    · have hkq : ks[q]? = some (ks[q]'(by rw [HEM.out]; exact hlt)) := List.getElem?_eq_getElem _
      generalize (ks[q]'(by rw [HEM.out]; exact hlt)) = t at hkq
      obtain ⟨ad, rfl, hab, hcell⟩ := HK.out q hlt
      have hWr : Below B W wr := hbr.mono hB
      have hcc : ∀ j, j < 4 → wr.cell? (ad.add (q * 4 + j)) = some (us q j) := fun j hj => (hWr.cell (by rw [block_of_add]; exact hab)).trans ((HBL.out.cell (by rw [block_of_add]; exact hab)).trans (hcell j hj))
      obtain ⟨d0, d1, d2, d3⟩ := cells4 hcc
      have hgm := HS.out q t hkq
      obtain ⟨xk, xd, xA, xK, xn, xm, xc, xc', g0, g1, g2, g3⟩ := hgm.shape
      rw [g0, g1, g2, g3] at hgm
      rw [g0] at d0
      rw [g1] at d1
      rw [g2] at d2
      rw [g3] at d3
      have hxk := gmAt_k hgm
      have hkeep : keepT 4 (newT t) = decide (xk = 1) := by
        unfold keepT
        rw [newT_k, hxk]
        exact kid_k4 xk
      have hrt : ((ks.take (q + 1)).map newT).filter (keepT 4) = ((ks.take q).map newT).filter (keepT 4) ++ (if xk = 1 then [newT t] else []) := by
        rw [List.take_add_one, hkq, Option.toList_some, List.map_append, List.filter_append, List.map_singleton, List.filter_cons, List.filter_nil, hkeep]
        by_cases h : xk = 1
        · rw [if_pos h, decide_eq_true h]; rfl
        · rw [if_neg h, decide_eq_false h]; rfl
      have hxs : t.sz ≤ 100000 := by
        have := sz_kid hkq
        omega
      obtain ⟨css2, r1, r2, r3', r4, r5⟩ := kr
      have hlq : (((ks.take q).map newT).filter (keepT 4)).length ≤ q := Nat.le_trans (List.length_filter_le _ _) (by rw [List.length_map, List.length_take]; omega)
      obtain ⟨i0, hi0, hz0, hz1, hz2⟩ := info_parts info_pt
      have hcall := fun hx : xk = 1 => point_G hgm (hxk.trans hx) hxs (wr.alloc (.cells #[.int .i64 xk, .int .i64 xd, .slice xA xn xc, .slice xK xm xc'] 25)) ((HBL.out.trans hWr).alloc (by omega) _) (by simp; omega)
      have HC := Lib.hid hcall
      have HRT := Lib.hid hrt
      have X0 := Lib.hid x0
      have X1 := Lib.hid x1
      have HBR := Lib.hid hbr
      have R1 := Lib.hid r1
      have R2 := Lib.hid r2
      have R3 := Lib.hid r3'
      have R4 := Lib.hid r4
      have R5 := Lib.hid r5
      have f0 : ∀ o : Obj, (wr.alloc o).cell? ⟨W.heap.size, 0, none⟩ = some (.int .i64 4) := fun o => ((x0.alloc o).cell 0).trans rfl
      clear hcall hrt x0 x1 hbr r1 r2 r3' r4 r5 hkq hcc hcell hWr g0 g1 g2 g3 hgm hkeep hxk
      generalize ((ks.take q).map newT).filter (keepT 4) = rs at *
      by_cases h2 : xk = 1
      · subst h2
        replace HC := Lib.hid (HC.out rfl)
        generalize newT t = tm at *
        go_wp2_with fail
        refine HC.out.mono ?_
        rintro e w4 ⟨yx, yy, yz, ym, yq, yf, rfl, h4, b4⟩
        rw [if_pos trivial] at HRT
        have HB4 : Hid (Below wr.heap.size wr w4) := Lib.hid (((Below.refl wr.heap.size wr).alloc (Nat.le_refl _) _).trans (b4.mono (by simp)))
        have hws : wr.heap.size + 1 ≤ w4.heap.size := by have := b4.size; simpa using this
        have H4 := Lib.hid (PtG.keeps _ w4 _ (fun b => wr.heap.size ≤ b) _ _ h4 (fun _ _ _ => rfl) (fun b hb _ => by simp at hb; omega))
        have HOW : Hid (w4.ownsRow 0 52 6 u3 rs.length css2.flatten) := Lib.hid (own_keep R1.out (fun b _ hb => HB4.out.block b hb))
        have HOK : Hid (∀ b, wr.heap.size ≤ b → W.heap.size + 2 ≤ b) := Lib.hid fun b hb => by omega
        clear h4 b4
        go_wp2_with (at_builtin; refine wpList_append_any _ rfl _ _ _ rfl 0 52 i0 (.agg #[.float .f64 0, .float .f64 0, .float .f64 0, .float .f64 0, .int .u8 0, .bool false]) 6 48 Tryz.underlying103 hi0 hz0 hz1 hz2 rfl (by decide) _ rs.length css2.flatten rfl (by exact World.ownsRow.alloc HOW.out _) _ _ 1 _ [.float .f64 yx, .float .f64 yy, .float .f64 yz, .float .f64 ym, .int .u8 yq, .bool yf] rfl (by exact reads_new6 (by simp)) (by simp [Value.oneCell']) (by simp only [maxLen]; omega) (by omega) (Nat.zero_le _) ?_; intro v1 W1 ho hg hp; obtain ⟨kr1, hg1⟩ := KRow.pushed PtG.keeps R2.out R1.out R3.out R4.out R5.out HB4.out H4.out rfl HOK.out ho hg hp; have KR1 := Lib.hid kr1; have HG1 := Lib.hid hg1; clear ho hg hp kr1 hg1)
        go_roundw
        case rel =>
          have hkr := R2.out
          refine ⟨q + 1, by omega, by go_num, Blk.grown X0.out HG1.out (fun e => by have := hkr _ e.symm; omega), Blk.grown X1.out HG1.out (fun e => by have := hkr _ e.symm; omega), ?_, below_grownBy HBR.out HBR.out.size HG1.out (fun b hb => by have := hkr b hb; omega), ?_⟩
          · rw [HRT.out]
            exact KR1.out
          · have := HG1.out.size
            omega
        case measure => simp [intOf]; omega
      · have e2 : (xk == 1) = false := by rw [beq_eq_false_iff_ne]; exact h2
        rw [if_neg h2, List.append_nil] at HRT
        clear HC
        go_wp2
        go_roundw
        case rel =>
          have hA : Below wr.heap.size wr (wr.alloc (.cells #[.int .i64 xk, .int .i64 xd, .slice xA xn xc, .slice xK xm xc'] 25)) := (Below.refl _ _).alloc (Nat.le_refl _) _
          refine ⟨q + 1, by omega, by go_num, X0.out.alloc _, X1.out.alloc _, ?_, HBR.out.trans (hA.mono HBR.out.size), by simp; omega⟩
          rw [HRT.out]
          exact KRow.keep PtG.keeps ⟨css2, R1.out, R2.out, R3.out, R4.out, R5.out⟩ (fun b _ hl => hA.block b hl) (fun b hb _ => hb)
        case measure => simp [intOf]; omega
    · obtain rfl : m = q := by omega
      rw [List.take_of_length_le (by rw [HEM.out]; exact Nat.le_refl _)] at kr
      have hml : ((ks.map newT).filter (keepT 4)).length ≤ 100000 := Nat.le_trans (List.length_filter_le _ _) (by rw [List.length_map]; omega)
      have hok : ∀ t ∈ (ks.map newT).filter (keepT 4), OkT t := fun t ht => by
        obtain ⟨u, hu, rfl⟩ := List.mem_map.1 (List.mem_filter.1 ht).1
        exact (ok_newT u (by have := sz_mem hu; omega)).2.2
      generalize (ks.map newT).filter (keepT 4) = ts at *
      obtain ⟨A1, n1, c1, rfl, hl1⟩ := row_shape kr
      have c0 := x1.cell 0
      have c1' := x1.cell 1
      have z0 := x1.frozen 0
      have z1 := x1.frozen 1
      have d1 := x0.cell 1
      simp at c0 c1' d1
      have X1 := Lib.hid x1
      have HBR := Lib.hid hbr
      have HOK := Lib.hid hok
      have HL1 := Lib.hid hl1
      have KR := Lib.hid kr
      by_cases h0 : n1 = 0
      · subst h0
        obtain rfl : ts = [] := List.eq_nil_of_length_eq_zero hl1
        have HT2 : Hid (T = .mk 4 (d % 4) [] []) := Lib.hid (by rw [← HPT.out]; unfold partsT; rw [if_pos rfl])
        clear HPT
        have hdim := dimOf_any d wr
        have hforce := MpForce_raw (ok := fun b => W.heap.size + 2 ≤ b) (A := none) (n := 0) (c := 0) (d % 4) q0 q1 0 wr (KRow.nil wr _) rfl (by simp) (by omega)
        generalize d % 4 = dq at *
        have HD := Lib.hid hdim
        have HF := Lib.hid hforce
        clear hdim hforce hok hl1 kr x1 hbr
        go_wp2_with fail
        refine HD.out.mono ?_
        rintro e w4 ⟨rfl, rfl⟩
        go_wp2_with fail
        refine HF.out.mono ?_
        rintro e w5 ⟨yA, yn, yc, yq, rfl, h5, b5⟩
        have x5 := X1.out.below b5 X1.out.lt
        have y0 := x5.frozen 0
        have y1 := x5.frozen 1
        have v0 := x5.cell 0
        have v1 := x5.cell 1
        simp at v0 v1
        have e0 : (w5.setCell ⟨W.heap.size + 1, 0, none⟩ (.slice yA yn yc)).cell? ⟨W.heap.size + 1, 0, none⟩ = some (.slice yA yn yc) := by simpa using (x5.set_ 0 (.slice yA yn yc)).cell 0
        have e1 : ((w5.setCell ⟨W.heap.size + 1, 0, none⟩ (.slice yA yn yc)).setCell ⟨W.heap.size + 1, 1, none⟩ (.int .u8 yq)).cell? ⟨W.heap.size + 1, 1, none⟩ = some (.int .u8 yq) := by simpa using ((x5.set_ 0 (.slice yA yn yc)).set_ 1 (.int .u8 yq)).cell 1
        have H5 := Lib.hid h5
        have B5 := Lib.hid b5
        clear h5 b5 x5
        go_wp2
        refine bodyPost_ret (by simp [results, Tryz.results75, go_sem, e0, e1]; try rfl) rfl ?_
        rw [HT2.out]
        refine ⟨yA, yn, yc, yq, rfl, MpG.keeps _ _ _ _ _ _ H5.out (fun b hb _ => ?_) (fun b hb _ => by omega), ?_⟩
        · have hne : b ≠ W.heap.size + 1 := by omega
          rw [Below.heap_setCell _ _ _ b hne, Below.heap_setCell _ _ _ b hne]
        · exact below_setCell' (below_setCell' (HBR.out.trans (B5.out.mono HBR.out.size)) (Nat.le_succ _) _) (Nat.le_succ _) _
      · have hne : ((n1 : Int) == 0) = false := by rw [beq_eq_false_iff_ne]; omega
        have hts : ts ≠ [] := fun e => by rw [e] at hl1; simp at hl1; omega
        have HT2 : Hid (T = .mk 4 (ctF ts) [] (ts.map (forceT (ctF ts)))) := Lib.hid (by rw [← HPT.out]; unfold partsT; rw [if_neg hts, forceT_mk, row_force_nil]; rfl)
        clear HPT
        have hnew := NewMultiPoint_G wr kr hl1 hok (by omega) (by omega)
        generalize Gm.mk 4 (ctF ts) [] (ts.map (forceT (ctF ts))) = T2 at *
        have HF := Lib.hid hnew
        clear hnew hok hl1 kr x1 hbr
        go_wp2_with fail
        refine HF.out.mono ?_
        rintro e w5 ⟨yA, yn, yc, yq, rfl, h5, b5⟩
        have x5 := X1.out.below b5 X1.out.lt
        have y0 := x5.frozen 0
        have y1 := x5.frozen 1
        have v0 := x5.cell 0
        have v1 := x5.cell 1
        simp at v0 v1
        have e0 : (w5.setCell ⟨W.heap.size + 1, 0, none⟩ (.slice yA yn yc)).cell? ⟨W.heap.size + 1, 0, none⟩ = some (.slice yA yn yc) := by simpa using (x5.set_ 0 (.slice yA yn yc)).cell 0
        have e1 : ((w5.setCell ⟨W.heap.size + 1, 0, none⟩ (.slice yA yn yc)).setCell ⟨W.heap.size + 1, 1, none⟩ (.int .u8 yq)).cell? ⟨W.heap.size + 1, 1, none⟩ = some (.int .u8 yq) := by simpa using ((x5.set_ 0 (.slice yA yn yc)).set_ 1 (.int .u8 yq)).cell 1
        have H5 := Lib.hid h5
        have B5 := Lib.hid b5
        clear h5 b5 x5
        go_wp2
        refine bodyPost_ret (by simp [results, Tryz.results75, go_sem, e0, e1]; try rfl) rfl ?_
        rw [HT2.out]
        refine ⟨yA, yn, yc, yq, rfl, MpG.keeps _ _ _ _ _ _ H5.out (fun b hb _ => ?_) (fun b hb _ => by omega), ?_⟩
        · have hne : b ≠ W.heap.size + 1 := by omega
          rw [Below.heap_setCell _ _ _ b hne, Below.heap_setCell _ _ _ b hne]
        · exact below_setCell' (below_setCell' (HBR.out.trans (B5.out.mono HBR.out.size)) (Nat.le_succ _) _) (Nat.le_succ _) _

end Go.Proofs.YtpbcfgehmalppaaGreatDoor

/- Texts of geometries of parts. -/
namespace Go.Proofs.YtpbcfgehmalppaaGreatDoor
open Go.RowKit Go.Proofs.YtpbcfgehmalppaaGreatDoorW.PrintLast

attribute [local go_sem] run_store_float

set_option maxHeartbeats 8000000 in
set_option maxRecDepth 100000 in
theorem MpWkt_G {ok : Nat → Prop} {A : Option Addr} {n c : Nat} {q : Int} {t : Gm} (hi lo : Nat → Int) (w : World) (h : MpG w ok [.slice A n c, .int .u8 q] t) (ho : OkT t) (v : Value) (bs : List Int) (hv : Own w v bs) (ht : FtTabs w hi lo)
    (hrow : ∀ k, k < 7 → v.ownBlock ≠ some k) (hokv : ∀ b, ok b → b < w.heap.size → v.ownBlock ≠ some b) (hl : bs.length + 10000 * t.np ≤ 60000000000000) :
    Calls Tryz.prog 84 #[.agg #[.slice A n c, .int .u8 q], v] w fun e w' => ∃ v', e = .returned v' ∧ Bf w w' v.ownBlock v' (bs ++ wktT hi lo t) := by
  obtain ⟨i0, hi0, hz0, hz1, hz2⟩ := info_parts info_u8
  have hN := RowG.nums (fun _ _ _ _ h => h.nums) h
  obtain ⟨A', n', c', q', ks, rfl, e, q0, q1, hl1, hn, hr⟩ := h
  simp only [List.cons.injEq, Value.slice.injEq, Value.int.injEq, and_true, true_and] at e
  obtain ⟨⟨rfl, rfl, rfl⟩, rfl⟩ := e
  have hNk : ∀ t ∈ ks, NumT t := by cases hN with | mk _ hk => exact hk
  have hOk : ∀ t ∈ ks, OkT t := by cases ho with | mk _ _ _ _ hk => exact hk
  rw [np_mk, show ([] : List Nat).length / wd q = 0 from Nat.zero_div _] at hl
  have hbody := bodyT_row hi lo 4 q ks
  have href := head_ref hi lo (t := .mk 4 q [] ks) q0 q1 bs
  have htl := tagB_len q
  have hnm : strB { data := #[77, 85, 76, 84, 73, 80, 79, 73, 78, 84] } = nameB 4 := rfl
  have hnl := nameB_len 4
  change bs ++ nameB 4 ++ tagB q ++ (sepO (bs ++ nameB 4 ++ tagB q) _ ++ _) = _ at href
  have hjr := fun (k : Nat) (s : Gm) (hk : ks[k]? = some s) => join_room hi lo 4 hNk hk
  have hja := fun (k : Nat) hk => join_all hi lo 4 hNk k hk
  have hgd := fun (k : Nat) (s : Gm) (hk : ks[k]? = some s) => kidsT_getD hi lo 4 hk
  rw [hl1] at hbody
  generalize (ks.map Gm.np).sum = SP at *
  have hb1 : Below w.heap.size w (w.alloc (.cells #[.slice A n c, .int .u8 q] 105)) := (Below.refl _ _).alloc (Nat.le_refl _) _
  have hbox := Blk.new w 105 #[.slice A n c, .int .u8 q]
  have hne : v.ownBlock ≠ some w.heap.size := fun e => by have := (hv.lt _ e).2; omega
  have ho1 : Own (w.alloc (.cells #[.slice A n c, .int .u8 q] 105)) v bs := hv.alloc _
  have ht1 := ht.below hb1
  have hg0 : w.grownBy (w.alloc (.cells #[.slice A n c, .int .u8 q] 105)) none := World.grownBy_alloc w _ none
  have hsz1 : w.heap.size ≤ (w.alloc (.cells #[.slice A n c, .int .u8 q] 105)).heap.size := by simp
  have HD := Lib.hid (header_any { data := #[77, 85, 76, 84, 73, 80, 79, 73, 78, 84] } q q0 q1 (w.alloc (.cells #[.slice A n c, .int .u8 q] 105)) v bs ho1 (by rw [← strB_length, hnm]; omega))
  rw [hnm] at HD
  have r0 := hbox.cell 0
  have r1 := hbox.cell 1
  simp at r0 r1
  have HBX := Lib.hid hbox
  have HB1 := Lib.hid hb1
  have HT := Lib.hid ht1
  have HG0 := Lib.hid hg0
  have HR := Lib.hid hr
  have HL1 := Lib.hid hl1
  have HOK := Lib.hid hOk
  have HBD := Lib.hid hbody
  have HRF := Lib.hid href
  have HJR := Lib.hid hjr
  have HJA := Lib.hid hja
  have HGD := Lib.hid hgd
  have HKV := Lib.hid hokv
  have HOV := Lib.hid ho1
  have HNM := Lib.hid hnm
  clear hbox hb1 ht1 ht hg0 hr hl1 hOk hbody href hjr hja hgd hokv hN hNk ho ho1 hnm hv
  go_enter Tryz.func84, Tryz.ntmps84
  go_wp2_with fail
  refine (MpCT A n c q _).mono ?_
  rintro e w1 ⟨rfl, b1⟩
  have HO1 := Lib.hid ((Bf.start HOV.out).below b1)
  clear b1
  go_wp2_with fail
  refine (header_any { data := #[77, 85, 76, 84, 73, 80, 79, 73, 78, 84] } q q0 q1 _ v bs (Bf.own_ HO1.out) (by rw [← strB_length, HNM.out]; omega)).mono ?_
  rintro e w2 ⟨v2, rfl, h2'⟩
  have h2 := HO1.out.trans h2'
  rw [HNM.out] at h2
  clear h2'
  have x2 := HBX.out.bf h2 hne
  clear r0 r1
  have r0 := x2.cell 0
  have r1 := x2.cell 1
  simp at r0 r1
  generalize hBS : bs ++ nameB 4 ++ tagB q = BS at *
  have hBSl : BS.length ≤ bs.length + 22 := by rw [← hBS]; simp only [len_app]; omega
  have hBSn : ∃ m, BS.length = m + 1 := by
    refine ⟨BS.length - 1, ?_⟩
    have : 0 < BS.length := by rw [← hBS, len_app, len_app]; have : 0 < (nameB 4).length := by decide
                               omega
    omega
  obtain ⟨nb, hnb⟩ := hBSn
  have HNB := Lib.hid hnb
  have H2 := Lib.hid h2
  clear hBS h2 x2 hnb
  by_cases hn0 : n = 0
  · subst hn0
    rw [if_pos rfl] at HBD
    go_wp2_with fail
    refine (empty_any _ _ BS nb HNB.out (Bf.own_ H2.out) (by omega)).mono ?_
    rintro e w3 ⟨v3, rfl, h3⟩
    have H3 := Lib.hid (H2.out.trans h3)
    clear h3
    go_wp2
    go_ret
    refine ⟨_, rfl, ?_⟩
    have h3 := H3.out.pre_none HG0.out
    rw [sepO_empty, ← HBD.out, HRF.out] at h3
    exact h3
  · have hne0 : ((n : Int) == 0) = false := by rw [beq_eq_false_iff_ne]; omega
    rw [if_neg hn0] at HBD
    have h2 := H2.out
    go_wp2_with ((at_builtin; refine wpList_bf_append1g rfl _ _ _ rfl Tryz.underlying30 hi0 hz0 hz1 hz2 rfl rfl (by assumption) (by first | rfl | simp) (by first | omega | (simp only [len_app, List.length_cons, List.length_nil]; omega)) ?_; intro v1 W1 h1); have x3 := HBX.out.bf h1 hne; have r0 := x3.cell 0; have r1 := x3.cell 1; simp at r0 r1; clear x3)
    have H3 := Lib.hid h1
    clear h1 h2
    go_loopw [1, 23] (fun u i wr => ∃ k : Nat, k ≤ n ∧ i = .int .i64 k ∧ Bf (w.alloc (.cells #[.slice A n c, .int .u8 q] 105)) wr v.ownBlock u (BS ++ [40] ++ joinS 44 (kidsT hi lo 4 ks) k)) (fun _ i _ => n - (intOf i).toNat)
    case atStart => exact ⟨0, Nat.zero_le _, rfl, by simpa [joinS] using H3.out⟩
    case round =>
      obtain ⟨k, hk, rfl, h1⟩ := hrel
      have hjk := HJA.out k (by rw [HL1.out]; exact hk)
      have hwz : w.heap.size + 1 ≤ wr.heap.size := by have := h1.grown.size; simpa using this
      by_cases hlt : k < n
      · obtain ⟨g, x, s, rfl, hgok, hr, hxl, hcl, hrs, hgl⟩ := row_at HL1.out HR.out hlt
        replace hgl := hgl (by decide)
        have hsm : OkT s := HOK.out s (List.mem_of_getElem? hr)
        obtain ⟨rx, ry, rz, rm, rq, rf, rfl, -⟩ := hrs.shape
        have hgv := HKV.out g hgok hgl
        have j0 := cell_at HB1.out h1 hgl hgv (hcl 0 _ rfl)
        have j1 := cell_at HB1.out h1 hgl hgv (hcl 1 _ rfl)
        have j2 := cell_at HB1.out h1 hgl hgv (hcl 2 _ rfl)
        have j3 := cell_at HB1.out h1 hgl hgv (hcl 3 _ rfl)
        have j4 := cell_at HB1.out h1 hgl hgv (hcl 4 _ rfl)
        have j5 := cell_at HB1.out h1 hgl hgv (hcl 5 _ rfl)
        rw [Nat.add_zero] at j0
        have hstep : joinS 44 (kidsT hi lo 4 ks) (k + 1) = (if 0 < k then joinS 44 (kidsT hi lo 4 ks) k ++ [44] else joinS 44 (kidsT hi lo 4 ks) k) ++ (kidsT hi lo 4 ks).getD k [] := rfl
        rw [HGD.out k s hr] at hstep
        have hroom := HJR.out k s hr
        have hT0 : k = 0 → joinS 44 (kidsT hi lo 4 ks) k = [] := fun h => by rw [h]; rfl
        generalize joinS 44 (kidsT hi lo 4 ks) k = T at *
        have hlk : (BS ++ [40] ++ T).length + 10000 * s.np + 1 ≤ 60000000000000 := by simp only [len_app, List.length_cons, List.length_nil]; omega
        have HST := Lib.hid hstep
        have HRS := Lib.hid hrs
        have HSM := Lib.hid hsm
        generalize hBT : BS ++ [40] ++ T = BT at *
        have HBT := Lib.hid hBT
        have hA : Below wr.heap.size wr (wr.alloc (.cells #[.float .f64 rx, .float .f64 ry, .float .f64 rz, .float .f64 rm, .int .u8 rq, .bool rf] 52)) := (Below.refl _ _).alloc (Nat.le_refl _) _
        have hu : u1.ownBlock ≠ some wr.heap.size := fun e => by have := (h1.own.lt _ e).2; omega
        have hlb := Blk.new wr 52 #[.float .f64 rx, .float .f64 ry, .float .f64 rz, .float .f64 rm, .int .u8 rq, .bool rf]
        have H1 := Lib.hid (h1.below hA)
        have HLB := Lib.hid hlb
        clear hstep hrs hcl hr hBT hsm h1 hA
        by_cases hk0 : 0 < k
        · have hd : decide (0 < (k : Int)) = true := decide_eq_true (by omega)
          rw [if_pos hk0] at HST
          have h1 := Bf.start H1.out.own
          go_wp2_with ((at_builtin; refine wpList_bf_append1g rfl _ _ _ rfl Tryz.underlying30 hi0 hz0 hz1 hz2 rfl rfl (by assumption) (by first | rfl | simp) (by first | omega | (simp only [len_app, List.length_cons, List.length_nil]; omega)) ?_; intro v1 W1 h1); have hlb1 := HLB.out.bf h1 hu; have l0 := hlb1.cell 0; have l1 := hlb1.cell 1; have l2 := hlb1.cell 2; have l3 := hlb1.cell 3; have l4 := hlb1.cell 4; have l5 := hlb1.cell 5; simp at l0 l1 l2 l3 l4 l5; clear hlb1)
          have HC := Lib.hid (H1.out.trans h1)
          clear h1
          with_reducible refine (PtIn_G 4 (by decide) hi lo _ (rel_at PtG.keeps HB1.out HC.out HKV.out (fun b h => h.1) HRS.out) HSM.out _ (BT ++ [44]) (opensB_44 BT) (Bf.own_ HC.out) (HT.out.of_bf HC.out hrow) (place_row HC.out hrow HT.out.siz) (place_ok HC.out HKV.out hsz1) (by first | omega | (simp only [len_app, List.length_cons, List.length_nil]; omega))).mono ?_
          rintro e w5 ⟨v5, rfl, h5⟩
          have H5 := Lib.hid (HC.out.trans h5)
          clear h5
          go_wp2
          go_roundw
          case rel =>
            refine ⟨k + 1, by omega, by go_num, ?_⟩
            rw [HST.out]
            have h5 := H5.out
            rw [← HBT.out] at h5
            simpa [List.append_assoc] using h5
          case measure => simp [intOf]; omega
        · obtain rfl : k = 0 := by omega
          have hd : decide (0 < ((0 : Nat) : Int)) = false := rfl
          rw [if_neg hk0] at HST
          have hop : opensB BT := by rw [← HBT.out, hT0 rfl, List.append_nil]; exact opensB_40 BS
          have HC := H1
          go_wp2_with fail
          with_reducible refine (PtIn_G 4 (by decide) hi lo _ (rel_at PtG.keeps HB1.out HC.out HKV.out (fun b h => h.1) HRS.out) HSM.out _ BT (hop) (Bf.own_ HC.out) (HT.out.of_bf HC.out hrow) (place_row HC.out hrow HT.out.siz) (place_ok HC.out HKV.out hsz1) (by first | omega | (simp only [len_app, List.length_cons, List.length_nil]; omega))).mono ?_
          rintro e w5 ⟨v5, rfl, h5⟩
          have H5 := Lib.hid (HC.out.trans h5)
          clear h5
          go_wp2
          go_roundw
          case rel =>
            refine ⟨1, by omega, by go_num, ?_⟩
            rw [HST.out]
            have h5 := H5.out
            rw [← HBT.out] at h5
            simpa [List.append_assoc] using h5
          case measure => simp [intOf]; omega
      · obtain rfl : n = k := by omega
        have hlk : (BS ++ [40] ++ joinS 44 (kidsT hi lo 4 ks) n).length ≤ 60000000000000 := by simp only [len_app, List.length_cons, List.length_nil]; omega
        generalize hBT : BS ++ [40] ++ joinS 44 (kidsT hi lo 4 ks) n = BT at *
        have HBT := Lib.hid hBT
        clear hBT
        go_wp2_with (at_builtin; refine wpList_bf_append1g rfl _ _ _ rfl Tryz.underlying30 hi0 hz0 hz1 hz2 rfl rfl (by assumption) (by first | rfl | simp) (by first | omega | (simp only [len_app, List.length_cons, List.length_nil]; omega)) ?_; intro v1 W1 h1)
        go_ret
        refine ⟨_, rfl, ?_⟩
        have h3 := h1.pre_none HG0.out
        have e : BT ++ [41] = bs ++ wktT hi lo (.mk 4 q [] ks) := by
          rw [← HRF.out, HBD.out, List.append_assoc [40], sepO_list, ← HBT.out]
          simp [List.append_assoc]
        rw [e] at h3
        exact h3

end Go.Proofs.YtpbcfgehmalppaaGreatDoor

/- Texts of points, line strings, several polygons, several points, as strings. -/
namespace Go.Proofs.YtpbcfgehmalppaaGreatDoor
open Go.RowKit Go.Proofs.YtpbcfgehmalppaaGreatDoorW.PrintLast

attribute [local go_sem] run_store_float

theorem PtG_dk {w : World} {ok : Nat → Prop} {x y z m : Nat} {q : Int} {f : Bool} {t : Gm} (h : PtG w ok [.float .f64 x, .float .f64 y, .float .f64 z, .float .f64 m, .int .u8 q, .bool f] t) : t.d = q ∧ 0 ≤ q ∧ q ≤ 3 ∧ t.k = 1 := by
  obtain ⟨_, _, _, _, q', _, e, h0, h1, -, rfl⟩ := h
  simp only [List.cons.injEq, Value.int.injEq, and_true, true_and] at e
  obtain ⟨-, -, -, -, e, -⟩ := e
  rw [e]
  exact ⟨rfl, h0, h1, rfl⟩

set_option maxHeartbeats 4000000 in
set_option maxRecDepth 100000 in
theorem PtWkt_G {ok : Nat → Prop} {x y z m : Nat} {q : Int} {f : Bool} {t : Gm} (hi lo : Nat → Int) (w : World) (h : PtG w ok [.float .f64 x, .float .f64 y, .float .f64 z, .float .f64 m, .int .u8 q, .bool f] t) (ho : OkT t) (v : Value) (bs : List Int) (hv : Own w v bs) (ht : FtTabs w hi lo)
    (hrow : ∀ k, k < 7 → v.ownBlock ≠ some k) (hokv : ∀ b, ok b → b < w.heap.size → v.ownBlock ≠ some b) (hl : bs.length + 100 + 10000 * t.np ≤ 60000000000000) :
    Calls Tryz.prog 57 #[.agg #[.float .f64 x, .float .f64 y, .float .f64 z, .float .f64 m, .int .u8 q, .bool f], v] w fun e w' => ∃ v', e = .returned v' ∧ Bf w w' v.ownBlock v' (bs ++ wktT hi lo t) := by
  obtain ⟨hd, hd0, hd1, hk⟩ := PtG_dk h
  have href := head_ref hi lo (t := t) (by rw [hd]; exact hd0) (by rw [hd]; exact hd1) bs
  rw [hk, hd] at href
  have hnm : strB { data := #[80, 79, 73, 78, 84] } = nameB 1 := rfl
  have htl := tagB_len q
  have hnl : (nameB 1).length = 5 := rfl
  have hb1 : Below w.heap.size w (w.alloc (.cells #[.float .f64 x, .float .f64 y, .float .f64 z, .float .f64 m, .int .u8 q, .bool f] 52)) := (Below.refl _ _).alloc (Nat.le_refl _) _
  have hbox := Blk.new w 52 #[.float .f64 x, .float .f64 y, .float .f64 z, .float .f64 m, .int .u8 q, .bool f]
  have hne : v.ownBlock ≠ some w.heap.size := fun e => by have := (hv.lt _ e).2; omega
  have ht1 := ht.below hb1
  have hg0 : w.grownBy (w.alloc (.cells #[.float .f64 x, .float .f64 y, .float .f64 z, .float .f64 m, .int .u8 q, .bool f] 52)) none := World.grownBy_alloc w _ none
  have hsz1 : w.heap.size ≤ (w.alloc (.cells #[.float .f64 x, .float .f64 y, .float .f64 z, .float .f64 m, .int .u8 q, .bool f] 52)).heap.size := by simp
  have HOV := Lib.hid (Bf.start (hv.alloc (.cells #[.float .f64 x, .float .f64 y, .float .f64 z, .float .f64 m, .int .u8 q, .bool f] 52)))
  have HNM := Lib.hid hnm
  have HBX := Lib.hid hbox
  have HB1 := Lib.hid hb1
  have HT := Lib.hid ht1
  have HG0 := Lib.hid hg0
  have HH := Lib.hid h
  have HO := Lib.hid ho
  have HKV := Lib.hid hokv
  have HRF := Lib.hid href
  clear hbox hb1 ht1 ht hg0 h ho hokv hnm hv href hd hk
  go_enter Tryz.func57, Tryz.ntmps57
  go_wp2_with fail
  refine (header_any { data := #[80, 79, 73, 78, 84] } q hd0 hd1 _ v bs (Bf.own_ HOV.out) (by rw [← strB_length, HNM.out]; omega)).mono ?_
  rintro e w2 ⟨v2, rfl, h2'⟩
  have h2 := HOV.out.trans h2'
  rw [HNM.out] at h2
  clear h2'
  have x2 := HBX.out.bf h2 hne
  have r0 := x2.cell 0
  have r1 := x2.cell 1
  have r2 := x2.cell 2
  have r3 := x2.cell 3
  have r4 := x2.cell 4
  have r5 := x2.cell 5
  simp at r0 r1 r2 r3 r4 r5
  have hBSl : (bs ++ nameB 1 ++ tagB q).length ≤ bs.length + 22 := by simp only [len_app]; omega
  have hBSn : bs ++ nameB 1 ++ tagB q ≠ [] := by
    intro e
    have := congrArg List.length e
    simp only [len_app, List.length_nil] at this
    omega
  generalize bs ++ nameB 1 ++ tagB q = BS at *
  have HC := Lib.hid h2
  have HBN := Lib.hid hBSn
  clear h2 x2 hBSn
  go_wp2_with fail
  with_reducible refine (PtBody_G hi lo _ (PtG.any (ok' := ok) HH.out) _ BS HBN.out (Bf.own_ HC.out) (HT.out.of_bf HC.out hrow) (place_row HC.out hrow HT.out.siz) (by omega)).mono ?_
  rintro e w5 ⟨v5, rfl, h5⟩
  have H5 := Lib.hid (HC.out.trans h5)
  clear h5
  go_wp2
  go_ret
  refine ⟨_, rfl, ?_⟩
  have h5 := H5.out.pre_none HG0.out
  rw [HRF.out] at h5
  exact h5

set_option maxRecDepth 100000 in
theorem PtText_G {ok : Nat → Prop} {x y z m : Nat} {q : Int} {f : Bool} {t : Gm} (hi lo : Nat → Int) (w : World) (h : PtG w ok [.float .f64 x, .float .f64 y, .float .f64 z, .float .f64 m, .int .u8 q, .bool f] t) (ho : OkT t) (ht : FtTabs w hi lo) (hl : t.np ≤ 1000000) :
    Calls Tryz.prog 29 #[.agg #[.float .f64 x, .float .f64 y, .float .f64 z, .float .f64 m, .int .u8 q, .bool f]] w fun e w' => e = .returned (.string (strOfNums (wktT hi lo t))) ∧ Below w.heap.size w w' := by
  have hb1 : Below w.heap.size w (w.alloc (.cells #[.float .f64 x, .float .f64 y, .float .f64 z, .float .f64 m, .int .u8 q, .bool f] 52)) := (Below.refl _ _).alloc (Nat.le_refl _) _
  have hcall := PtWkt_G hi lo (w.alloc (.cells #[.float .f64 x, .float .f64 y, .float .f64 z, .float .f64 m, .int .u8 q, .bool f] 52)) (PtG.keeps _ _ _ ok _ _ h (fun b _ hl => hb1.block b hl) (fun b h _ => h)) ho (.slice none 0 0) [] (World.ownsRow_nil _ _ _ _) (ht.below hb1) (fun _ _ e => by cases e) (fun _ _ _ e => by cases e) (by rw [List.length_nil]; omega)
  have HC := Lib.hid hcall
  have HB1 := Lib.hid hb1
  clear hcall hb1 h ho ht
  go_enter Tryz.func29, Tryz.ntmps29
  go_wp2_with fail
  refine HC.out.mono ?_
  rintro e w1 ⟨v1, rfl, h1⟩
  rw [List.nil_append] at h1
  have hcv := own_string (P := Tryz.prog) (src := 30) (dst := 9) Tryz.underlying30 Tryz.underlying5 Tryz.underlying9 h1.own_
  have HB := Lib.hid (HB1.out.trans ((below_bf0 h1).mono HB1.out.size))
  clear h1
  go_wp2
  go_ret
  exact ⟨rfl, HB.out⟩

theorem LsG_dk {w : World} {ok : Nat → Prop} {q : Int} {A : Option Addr} {n c : Nat} {t : Gm} (h : LsG w ok [.int .u8 q, .slice A n c] t) : t.d = q ∧ 0 ≤ q ∧ q ≤ 3 ∧ t.k = 2 := by
  obtain ⟨q', ns, rfl, A', n', c', e, h0, h1, -⟩ := h
  simp only [List.cons.injEq, Value.int.injEq, and_true, true_and] at e
  rw [e.1]
  exact ⟨rfl, h0, h1, rfl⟩

set_option maxHeartbeats 4000000 in
set_option maxRecDepth 100000 in
theorem LsWkt_G {ok : Nat → Prop} {q : Int} {A : Option Addr} {n c : Nat} {t : Gm} (hi lo : Nat → Int) (w : World) (h : LsG w ok [.int .u8 q, .slice A n c] t) (ho : OkT t) (v : Value) (bs : List Int) (hv : Own w v bs) (ht : FtTabs w hi lo)
    (hrow : ∀ k, k < 7 → v.ownBlock ≠ some k) (hokv : ∀ b, ok b → b < w.heap.size → v.ownBlock ≠ some b) (hl : bs.length + 100 + 10000 * t.np ≤ 60000000000000) :
    Calls Tryz.prog 83 #[.agg #[.int .u8 q, .slice A n c], v] w fun e w' => ∃ v', e = .returned v' ∧ Bf w w' v.ownBlock v' (bs ++ wktT hi lo t) := by
  obtain ⟨hd, hd0, hd1, hk⟩ := LsG_dk h
  have href := head_ref hi lo (t := t) (by rw [hd]; exact hd0) (by rw [hd]; exact hd1) bs
  rw [hk, hd] at href
  have hnm : strB { data := #[76, 73, 78, 69, 83, 84, 82, 73, 78, 71] } = nameB 2 := rfl
  have htl := tagB_len q
  have hnl : (nameB 2).length = 10 := rfl
  have hb1 : Below w.heap.size w (w.alloc (.cells #[.int .u8 q, .slice A n c] 93)) := (Below.refl _ _).alloc (Nat.le_refl _) _
  have hbox := Blk.new w 93 #[.int .u8 q, .slice A n c]
  have hne : v.ownBlock ≠ some w.heap.size := fun e => by have := (hv.lt _ e).2; omega
  have ht1 := ht.below hb1
  have hg0 : w.grownBy (w.alloc (.cells #[.int .u8 q, .slice A n c] 93)) none := World.grownBy_alloc w _ none
  have hsz1 : w.heap.size ≤ (w.alloc (.cells #[.int .u8 q, .slice A n c] 93)).heap.size := by simp
  have HOV := Lib.hid (Bf.start (hv.alloc (.cells #[.int .u8 q, .slice A n c] 93)))
  have HNM := Lib.hid hnm
  have HBX := Lib.hid hbox
  have HB1 := Lib.hid hb1
  have HT := Lib.hid ht1
  have HG0 := Lib.hid hg0
  have HH := Lib.hid h
  have HO := Lib.hid ho
  have HKV := Lib.hid hokv
  have HRF := Lib.hid href
  clear hbox hb1 ht1 ht hg0 h ho hokv hnm hv href hd hk
  go_enter Tryz.func83, Tryz.ntmps83
  go_wp2_with fail
  refine (LsCT q A n c _).mono ?_
  rintro e w1 ⟨rfl, b1⟩
  replace HOV := Lib.hid (HOV.out.below b1)
  clear b1
  go_wp2_with fail
  refine (header_any { data := #[76, 73, 78, 69, 83, 84, 82, 73, 78, 71] } q hd0 hd1 _ v bs (Bf.own_ HOV.out) (by rw [← strB_length, HNM.out]; omega)).mono ?_
  rintro e w2 ⟨v2, rfl, h2'⟩
  have h2 := HOV.out.trans h2'
  rw [HNM.out] at h2
  clear h2'
  have x2 := HBX.out.bf h2 hne
  have r0 := x2.cell 0
  have r1 := x2.cell 1
  simp at r0 r1
  have hBSl : (bs ++ nameB 2 ++ tagB q).length ≤ bs.length + 22 := by simp only [len_app]; omega
  have hBSn : bs ++ nameB 2 ++ tagB q ≠ [] := by
    intro e
    have := congrArg List.length e
    simp only [len_app, List.length_nil] at this
    omega
  generalize bs ++ nameB 2 ++ tagB q = BS at *
  have HC := Lib.hid h2
  have HBN := Lib.hid hBSn
  clear h2 x2 hBSn
  go_wp2_with fail
  with_reducible refine (LsBody_G hi lo _ (rel_at LsG.keeps HB1.out HC.out HKV.out (fun b h => h) HH.out) HO.out _ BS HBN.out (Bf.own_ HC.out) (HT.out.of_bf HC.out hrow) (place_row HC.out hrow HT.out.siz) (place_ok HC.out HKV.out hsz1) (by omega)).mono ?_
  rintro e w5 ⟨v5, rfl, h5⟩
  have H5 := Lib.hid (HC.out.trans h5)
  clear h5
  go_wp2
  go_ret
  refine ⟨_, rfl, ?_⟩
  have h5 := H5.out.pre_none HG0.out
  rw [HRF.out] at h5
  exact h5

set_option maxRecDepth 100000 in
theorem LsText_G {ok : Nat → Prop} {q : Int} {A : Option Addr} {n c : Nat} {t : Gm} (hi lo : Nat → Int) (w : World) (h : LsG w ok [.int .u8 q, .slice A n c] t) (ho : OkT t) (ht : FtTabs w hi lo) (hl : t.np ≤ 1000000) :
    Calls Tryz.prog 91 #[.agg #[.int .u8 q, .slice A n c]] w fun e w' => e = .returned (.string (strOfNums (wktT hi lo t))) ∧ Below w.heap.size w w' := by
  have hb1 : Below w.heap.size w (w.alloc (.cells #[.int .u8 q, .slice A n c] 93)) := (Below.refl _ _).alloc (Nat.le_refl _) _
  have hcall := LsWkt_G hi lo (w.alloc (.cells #[.int .u8 q, .slice A n c] 93)) (LsG.keeps _ _ _ ok _ _ h (fun b _ hl => hb1.block b hl) (fun b h _ => h)) ho (.slice none 0 0) [] (World.ownsRow_nil _ _ _ _) (ht.below hb1) (fun _ _ e => by cases e) (fun _ _ _ e => by cases e) (by rw [List.length_nil]; omega)
  have HC := Lib.hid hcall
  have HB1 := Lib.hid hb1
  clear hcall hb1 h ho ht
  go_enter Tryz.func91, Tryz.ntmps91
  go_wp2_with fail
  refine HC.out.mono ?_
  rintro e w1 ⟨v1, rfl, h1⟩
  rw [List.nil_append] at h1
  have hcv := own_string (P := Tryz.prog) (src := 30) (dst := 9) Tryz.underlying30 Tryz.underlying5 Tryz.underlying9 h1.own_
  have HB := Lib.hid (HB1.out.trans ((below_bf0 h1).mono HB1.out.size))
  clear h1
  go_wp2
  go_ret
  exact ⟨rfl, HB.out⟩

set_option maxRecDepth 100000 in
theorem MpText_G {ok : Nat → Prop} {A : Option Addr} {n c : Nat} {q : Int} {t : Gm} (hi lo : Nat → Int) (w : World) (h : MpG w ok [.slice A n c, .int .u8 q] t) (ho : OkT t) (ht : FtTabs w hi lo) (hl : t.np ≤ 1000000) :
    Calls Tryz.prog 94 #[.agg #[.slice A n c, .int .u8 q]] w fun e w' => e = .returned (.string (strOfNums (wktT hi lo t))) ∧ Below w.heap.size w w' := by
  have hb1 : Below w.heap.size w (w.alloc (.cells #[.slice A n c, .int .u8 q] 105)) := (Below.refl _ _).alloc (Nat.le_refl _) _
  have hcall := MpWkt_G hi lo (w.alloc (.cells #[.slice A n c, .int .u8 q] 105)) (MpG.keeps _ _ _ ok _ _ h (fun b _ hl => hb1.block b hl) (fun b h _ => h)) ho (.slice none 0 0) [] (World.ownsRow_nil _ _ _ _) (ht.below hb1) (fun _ _ e => by cases e) (fun _ _ _ e => by cases e) (by rw [List.length_nil]; omega)
  have HC := Lib.hid hcall
  have HB1 := Lib.hid hb1
  clear hcall hb1 h ho ht
  go_enter Tryz.func94, Tryz.ntmps94
  go_wp2_with fail
  refine HC.out.mono ?_
  rintro e w1 ⟨v1, rfl, h1⟩
  rw [List.nil_append] at h1
  have hcv := own_string (P := Tryz.prog) (src := 30) (dst := 9) Tryz.underlying30 Tryz.underlying5 Tryz.underlying9 h1.own_
  have HB := Lib.hid (HB1.out.trans ((below_bf0 h1).mono HB1.out.size))
  clear h1
  go_wp2
  go_ret
  exact ⟨rfl, HB.out⟩

set_option maxRecDepth 100000 in
theorem MyText_G {ok : Nat → Prop} {A : Option Addr} {n c : Nat} {q : Int} {t : Gm} (hi lo : Nat → Int) (w : World) (h : MyG w ok [.slice A n c, .int .u8 q] t) (ho : OkT t) (ht : FtTabs w hi lo) (hl : t.np ≤ 1000000) :
    Calls Tryz.prog 97 #[.agg #[.slice A n c, .int .u8 q]] w fun e w' => e = .returned (.string (strOfNums (wktT hi lo t))) ∧ Below w.heap.size w w' := by
  have hb1 : Below w.heap.size w (w.alloc (.cells #[.slice A n c, .int .u8 q] 109)) := (Below.refl _ _).alloc (Nat.le_refl _) _
  have hcall := MyWkt_G hi lo (w.alloc (.cells #[.slice A n c, .int .u8 q] 109)) (MyG.keeps _ _ _ ok _ _ h (fun b _ hl => hb1.block b hl) (fun b h _ => h)) ho (.slice none 0 0) [] (World.ownsRow_nil _ _ _ _) (ht.below hb1) (fun _ _ e => by cases e) (fun _ _ _ e => by cases e) (by rw [List.length_nil]; omega)
  have HC := Lib.hid hcall
  have HB1 := Lib.hid hb1
  clear hcall hb1 h ho ht
  go_enter Tryz.func97, Tryz.ntmps97
  go_wp2_with fail
  refine HC.out.mono ?_
  rintro e w1 ⟨v1, rfl, h1⟩
  rw [List.nil_append] at h1
  have hcv := own_string (P := Tryz.prog) (src := 30) (dst := 9) Tryz.underlying30 Tryz.underlying5 Tryz.underlying9 h1.own_
  have HB := Lib.hid (HB1.out.trans ((below_bf0 h1).mono HB1.out.size))
  clear h1
  go_wp2
  go_ret
  exact ⟨rfl, HB.out⟩

set_option maxRecDepth 100000 in
theorem MlText_G {ok : Nat → Prop} {A : Option Addr} {n c : Nat} {q : Int} {t : Gm} (hi lo : Nat → Int) (w : World) (h : MlG w ok [.slice A n c, .int .u8 q] t) (ho : OkT t) (ht : FtTabs w hi lo) (hl : t.np ≤ 1000000) :
    Calls Tryz.prog 42 #[.agg #[.slice A n c, .int .u8 q]] w fun e w' => e = .returned (.string (strOfNums (wktT hi lo t))) ∧ Below w.heap.size w w' := by
  have hb1 : Below w.heap.size w (w.alloc (.cells #[.slice A n c, .int .u8 q] 67)) := (Below.refl _ _).alloc (Nat.le_refl _) _
  have hcall := MlWkt_G hi lo (w.alloc (.cells #[.slice A n c, .int .u8 q] 67)) (MlG.keeps _ _ _ ok _ _ h (fun b _ hl => hb1.block b hl) (fun b h _ => h)) ho (.slice none 0 0) [] (World.ownsRow_nil _ _ _ _) (ht.below hb1) (fun _ _ e => by cases e) (fun _ _ _ e => by cases e) (by rw [List.length_nil]; omega)
  have HC := Lib.hid hcall
  have HB1 := Lib.hid hb1
  clear hcall hb1 h ho ht
  go_enter Tryz.func42, Tryz.ntmps42
  go_wp2_with fail
  refine HC.out.mono ?_
  rintro e w1 ⟨v1, rfl, h1⟩
  rw [List.nil_append] at h1
  have hcv := own_string (P := Tryz.prog) (src := 30) (dst := 9) Tryz.underlying30 Tryz.underlying5 Tryz.underlying9 h1.own_
  have HB := Lib.hid (HB1.out.trans ((below_bf0 h1).mono HB1.out.size))
  clear h1
  go_wp2
  go_ret
  exact ⟨rfl, HB.out⟩

end Go.Proofs.YtpbcfgehmalppaaGreatDoor
