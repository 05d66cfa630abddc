/- The point made of plain data. -/
import Derived.Test.YtpbcfgehmalppaaGreatDoorJsC
namespace Go.Proofs.YtpbcfgehmalppaaGreatDoor
open Go.RowKit

attribute [local go_sem] run_store_float

set_option maxRecDepth 100000 in
theorem NewEmptyPoint_any (q : Int) (w : World) : Calls Tryz.prog 53 #[.int .u8 q] w fun e w' =>
    e = .returned (.agg #[.float .f64 0, .float .f64 0, .float .f64 0, .float .f64 0, .int .u8 q, .bool false]) ∧ Below w.heap.size w w' := by
  go_enter Tryz.func53, Tryz.ntmps53
  go_wp2
  go_returns
  exact ⟨rfl, by go_grown⟩

set_option maxRecDepth 100000 in
theorem NewPoint_any (x y z m : Nat) (q : Int) (w : World) : Calls Tryz.prog 55 #[.agg #[.float .f64 x, .float .f64 y, .float .f64 z, .float .f64 m, .int .u8 q]] w fun e w' =>
    e = .returned (.agg #[.float .f64 x, .float .f64 y, .float .f64 z, .float .f64 m, .int .u8 q, .bool true]) ∧ Below w.heap.size w w' := by
  go_enter Tryz.func55, Tryz.ntmps55
  go_wp2
  go_returns
  exact ⟨rfl, by go_grown⟩

/-- The point of plain data: empty without a whole place. -/
def ptV (d : Int) (ns : List Nat) : Value :=
  if wd (d % 4) ≤ ns.length then .agg #[.float .f64 (ptN (d % 4) ns 0).1, .float .f64 (ptN (d % 4) ns 0).2.1, .float .f64 (ptN (d % 4) ns 0).2.2.1, .float .f64 (ptN (d % 4) ns 0).2.2.2, .int .u8 (d % 4), .bool true]
  else .agg #[.float .f64 0, .float .f64 0, .float .f64 0, .float .f64 0, .int .u8 (d % 4), .bool false]

theorem six_cells {w : World} {g T : Nat} {a0 a1 a2 a3 a4 a5 : Value} (h : Blk w g T #[a0, a1, a2, a3, a4, a5]) (b0 b1 b2 b3 b4 b5 : Value) :
    (w.setCell ⟨g, 0, none⟩ b0).cell? ⟨g, 0, none⟩ = some b0 ∧
    ((w.setCell ⟨g, 0, none⟩ b0).setCell ⟨g, 1, none⟩ b1).cell? ⟨g, 1, none⟩ = some b1 ∧
    (((w.setCell ⟨g, 0, none⟩ b0).setCell ⟨g, 1, none⟩ b1).setCell ⟨g, 2, none⟩ b2).cell? ⟨g, 2, none⟩ = some b2 ∧
    ((((w.setCell ⟨g, 0, none⟩ b0).setCell ⟨g, 1, none⟩ b1).setCell ⟨g, 2, none⟩ b2).setCell ⟨g, 3, none⟩ b3).cell? ⟨g, 3, none⟩ = some b3 ∧
    (((((w.setCell ⟨g, 0, none⟩ b0).setCell ⟨g, 1, none⟩ b1).setCell ⟨g, 2, none⟩ b2).setCell ⟨g, 3, none⟩ b3).setCell ⟨g, 4, none⟩ b4).cell? ⟨g, 4, none⟩ = some b4 ∧
    ((((((w.setCell ⟨g, 0, none⟩ b0).setCell ⟨g, 1, none⟩ b1).setCell ⟨g, 2, none⟩ b2).setCell ⟨g, 3, none⟩ b3).setCell ⟨g, 4, none⟩ b4).setCell ⟨g, 5, none⟩ b5).cell? ⟨g, 5, none⟩ = some b5 := by
  have k0 := h.set_ 0 b0
  have k1 := k0.set_ 1 b1
  have k2 := k1.set_ 2 b2
  have k3 := k2.set_ 3 b3
  have k4 := k3.set_ 4 b4
  have k5 := k4.set_ 5 b5
  refine ⟨?_, ?_, ?_, ?_, ?_, ?_⟩
  · simpa using k0.cell 0
  · simpa using k1.cell 1
  · simpa using k2.cell 2
  · simpa using k3.cell 3
  · simpa using k4.cell 4
  · simpa using k5.cell 5

theorem ptN_take (q : Int) (ns : List Nat) (k : Nat) (h : wd q ≤ k) (q0 : 0 ≤ q) (q1 : q ≤ 3) : ptN q (ns.take k) 0 = ptN q ns 0 := by
  have e : ∀ j, j < k → (ns.take k).getD j 0 = ns.getD j 0 := fun j hj => by
    rw [List.getD_eq_getElem?_getD, List.getD_eq_getElem?_getD, List.getElem?_take, if_pos hj]
  have hw : 2 ≤ wd q ∧ (q % 2 = 1 → 3 ≤ wd q) := by unfold wd; omega
  have a2 : (if q % 2 = 1 then (ns.take k).getD (0 * wd q + 2) 0 else 0) = (if q % 2 = 1 then ns.getD (0 * wd q + 2) 0 else 0) := by
    split
    · exact e _ (by have := hw.2 (by assumption); omega)
    · rfl
  have a3 : (if q / 2 % 2 = 1 then (ns.take k).getD (0 * wd q + (wd q - 1)) 0 else 0) = (if q / 2 % 2 = 1 then ns.getD (0 * wd q + (wd q - 1)) 0 else 0) := by
    split
    · exact e _ (by omega)
    · rfl
  unfold ptN
  rw [e (0 * wd q) (by omega), e (0 * wd q + 1) (by omega), a2, a3]

set_option maxHeartbeats 1000000 in
set_option maxRecDepth 100000 in
theorem point_any {B : Nat} {A K : Option Addr} {n m c c' : Nat} {ns : List Nat} (d : Int) (w : World) (h : Reads w B 1 A n (flV ns)) (hB : B ≤ w.heap.size) (hn : n ≤ 1000000000) :
    Calls Tryz.prog 28 #[.agg #[.int .i64 1, .int .i64 d, .slice A n c, .slice K m c']] w fun e w' => e = .returned (ptV d ns) ∧ Below w.heap.size w w' := by
  have hnl : ns.length = n := by have := h.1; rw [flV_length] at this; omega
  have q0 : 0 ≤ d % 4 := by omega
  have q1 : d % 4 ≤ 3 := by omega
  have hwp : 2 ≤ wd (d % 4) ∧ wd (d % 4) ≤ 4 := by rcases wd_cases (d % 4) q0 q1 with ⟨_, h⟩ | ⟨_, h⟩ | ⟨_, h⟩ | ⟨_, h⟩ <;> rw [h] <;> omega
  have hb1 : Below w.heap.size w ((w.alloc (.cells #[.int .i64 1, .int .i64 d, .slice A n c, .slice K m c'] 25)).alloc (.cells #[.float .f64 0, .float .f64 0, .float .f64 0, .float .f64 0, .int .u8 0, .bool false] 52)) := ((Below.refl _ _).alloc (Nat.le_refl _) _).alloc (by simp) _
  have hsq := sequence_any (c := c) d ((w.alloc (.cells #[.int .i64 1, .int .i64 d, .slice A n c, .slice K m c'] 25)).alloc (.cells #[.float .f64 0, .float .f64 0, .float .f64 0, .float .f64 0, .int .u8 0, .bool false] 52)) (h.below (hb1.mono hB)) (by simp; omega) hn _ rfl
  have hkn : n - n % wd (d % 4) ≤ n := Nat.sub_le _ _
  have hdv : (n - n % wd (d % 4)) / wd (d % 4) = n / wd (d % 4) := by
    have h1 := Nat.div_add_mod n (wd (d % 4))
    have h2 : n - n % wd (d % 4) = wd (d % 4) * (n / wd (d % 4)) := by omega
    rw [h2, Nat.mul_div_cancel_left _ (by omega)]
  have hpt : n / wd (d % 4) ≠ 0 → ptV d ns = .agg #[.float .f64 (ptN (d % 4) (ns.take (n - n % wd (d % 4))) 0).1, .float .f64 (ptN (d % 4) (ns.take (n - n % wd (d % 4))) 0).2.1, .float .f64 (ptN (d % 4) (ns.take (n - n % wd (d % 4))) 0).2.2.1, .float .f64 (ptN (d % 4) (ns.take (n - n % wd (d % 4))) 0).2.2.2, .int .u8 (d % 4), .bool true] ∧ wd (d % 4) ≤ n - n % wd (d % 4) := fun hne => by
    have h1 := Nat.div_add_mod n (wd (d % 4))
    have h3 : wd (d % 4) * 1 ≤ wd (d % 4) * (n / wd (d % 4)) := Nat.mul_le_mul_left _ (Nat.pos_of_ne_zero hne)
    rw [ptN_take _ _ _ (by omega) q0 q1, ptV, if_pos (by omega)]
    exact ⟨rfl, by omega⟩
  have hpe : n / wd (d % 4) = 0 → ptV d ns = .agg #[.float .f64 0, .float .f64 0, .float .f64 0, .float .f64 0, .int .u8 (d % 4), .bool false] := fun he => by
    have h1 := Nat.lt_of_div_eq_zero (by omega) he
    rw [ptV, if_neg (by omega)]
  have hdm := dimOf_any d
  generalize ptV d ns = PV at *
  generalize hk : n - n % wd (d % 4) = k at *
  have hlk : (ns.take k).length = k := by rw [List.length_take]; omega
  generalize ns.take k = nk at *
  generalize d % 4 = q at *
  have HSQ := Lib.hid hsq
  have HDV := Lib.hid hdv
  have HPT := Lib.hid hpt
  have HPE := Lib.hid hpe
  have HLK := Lib.hid hlk
  have HB1 := Lib.hid hb1
  clear h hsq hdv hpt hpe hlk hk hnl hb1
  go_enter Tryz.func28, Tryz.ntmps28
  go_wp2_with fail
  refine HSQ.out.mono ?_
  rintro e w1 ⟨g, rfl, hg, hblk, h1⟩
  have HBK := Lib.hid hblk
  have hb2 := HB1.out.trans (h1.mono (by simp; omega))
  have c0 := ((Blk.new w 25 #[.int .i64 1, .int .i64 d, .slice A n c, .slice K m c']).alloc (.cells #[.float .f64 0, .float .f64 0, .float .f64 0, .float .f64 0, .int .u8 0, .bool false] 52)).below h1 (by simp; omega)
  have c1 := (Blk.new (w.alloc (.cells #[.int .i64 1, .int .i64 d, .slice A n c, .slice K m c'] 25)) 52 #[.float .f64 0, .float .f64 0, .float .f64 0, .float .f64 0, .int .u8 0, .bool false]).below h1 (by simp)
  rw [World.size_alloc] at c1
  have HB2 := Lib.hid hb2
  have C0 := Lib.hid c0
  have C1 := Lib.hid c1
  have HSZ : w.heap.size + 2 ≤ w1.heap.size := by have := h1.size; simpa using this
  clear hblk h1 hb2
  have d0 := (c0.alloc (.cells #[.int .u8 q, .slice (some ⟨g, 0, none⟩) k k] 78)).cell 0
  simp at d0
  have hsz : w.heap.size + 2 ≤ w1.heap.size := HSZ
  have hgs : g < w1.heap.size := HBK.out.lt
  clear c0 c1
  go_wp2_with fail
  refine (Length_any q q0 q1 _ k k (by omega) _).mono ?_
  rintro e w2 ⟨rfl, h2⟩
  have hrr : k / wd q = n / wd q := HDV.out
  generalize k / wd q = r at *
  have hb3 : Below w1.heap.size w1 w2 := ((Below.refl _ w1).alloc (Nat.le_refl _) _).trans (h2.mono (by simp))
  have hm0 : (Blk w2 w.heap.size 25 #[.int .i64 1, .int .i64 d, .slice A n c, .slice K m c']) := C0.out.below hb3 (by omega)
  have hm1 : Blk w2 (w.heap.size + 1) 52 #[.float .f64 0, .float .f64 0, .float .f64 0, .float .f64 0, .int .u8 0, .bool false] := C1.out.below hb3 (by omega)
  have hm2 : Blk w2 g 45 (flV nk).toArray := HBK.out.below hb3 hgs
  have hm3 : Blk w2 w1.heap.size 78 #[.int .u8 q, .slice (some ⟨g, 0, none⟩) k k] := (Blk.new w1 _ _).below h2 (by simp)
  have hbw : Below w.heap.size w w2 := HB2.out.trans (hb3.mono (by omega))
  have hs3 : w1.heap.size < w2.heap.size := hm3.lt
  have M0 := Lib.hid hm0
  have M1 := Lib.hid hm1
  have M2 := Lib.hid hm2
  have M3 := Lib.hid hm3
  have HBW := Lib.hid hbw
  have HRR := Lib.hid hrr
  have e0 := hm0.cell 1
  have f0 := hm3.cell 0
  have f1 := hm3.cell 1
  simp at e0 f0 f1
  clear hb3 hm0 hm1 hm2 hm3 hbw hrr h2 C0 C1 d0
  by_cases hr : r = 0
  · subst hr
    have hPE := HPE.out HRR.out.symm
    have HP := Lib.hid hPE
    clear hPE
    go_wp2_with fail
    refine (hdm _).mono ?_
    rintro e w2 ⟨rfl, rfl⟩
    go_wp2_with fail
    refine (NewEmptyPoint_any q _).mono ?_
    rintro e w3 ⟨rfl, h3⟩
    have k1 := M1.out.below h3 (by omega)
    have hs4 : w2.heap.size ≤ w3.heap.size := h3.size
    have HB4 := Lib.hid (HBW.out.trans (h3.mono (by omega)))
    obtain ⟨t0, t1, t2, t3, t4, t5⟩ := six_cells k1 (.float .f64 0) (.float .f64 0) (.float .f64 0) (.float .f64 0) (.int .u8 q) (.bool false)
    have k10 := k1.cell 0
    have k11 := k1.cell 1
    have k12 := k1.cell 2
    have k13 := k1.cell 3
    have k14 := k1.cell 4
    have k15 := k1.cell 5
    have z0 := k1.frozen 0
    have z1 := k1.frozen 1
    have z2 := k1.frozen 2
    have z3 := k1.frozen 3
    have z4 := k1.frozen 4
    have z5 := k1.frozen 5
    simp at k10 k11 k12 k13 k14 k15
    clear k1 h3
    go_wp2
    refine bodyPost_ret (by simp [results, Tryz.results28, go_sem, t0, t1, t2, t3, t4, t5]; try rfl) rfl ?_
    refine ⟨by rw [HP.out], ?_⟩
    have hl : w.heap.size ≤ w.heap.size + 1 := Nat.le_succ _
    exact below_setCell' (below_setCell' (below_setCell' (below_setCell' (below_setCell' (below_setCell' HB4.out hl _) hl _) hl _) hl _) hl _) hl _
  · have hPE := HPT.out (by rw [← HRR.out]; exact hr)
    obtain ⟨hP, hwk⟩ := hPE
    have HP := Lib.hid hP
    have hne : ((r : Int) == 0) = false := by rw [beq_eq_false_iff_ne]; omega
    have hGet := Get_any q q0 q1 g 0 k k nk _ M2.out HLK.out (by omega) (by omega)
    generalize ptN q nk 0 = p at *
    obtain ⟨px, py, pz, pm⟩ := p
    have HG := Lib.hid hGet
    clear hP hwk hGet
    go_wp2_with fail
    refine HG.out.mono ?_
    rintro e w3 ⟨rfl, h3⟩
    have k1 := M1.out.below h3 (by omega)
    have hs4 : w2.heap.size ≤ w3.heap.size := h3.size
    have hb4 := HBW.out.trans (h3.mono (by omega))
    have K1 := Lib.hid k1
    have HB3 := Lib.hid hb4
    clear k1 h3 hb4
    go_wp2_with fail
    refine (NewPoint_any px py pz pm q _).mono ?_
    rintro e w4 ⟨rfl, h3⟩
    have k1 := K1.out.below h3 (by omega)
    have hs5 : w3.heap.size ≤ w4.heap.size := h3.size
    have HB4 := Lib.hid (HB3.out.trans (h3.mono (by omega)))
    obtain ⟨t0, t1, t2, t3, t4, t5⟩ := six_cells k1 (.float .f64 px) (.float .f64 py) (.float .f64 pz) (.float .f64 pm) (.int .u8 q) (.bool true)
    have k10 := k1.cell 0
    have k11 := k1.cell 1
    have k12 := k1.cell 2
    have k13 := k1.cell 3
    have k14 := k1.cell 4
    have k15 := k1.cell 5
    have z0 := k1.frozen 0
    have z1 := k1.frozen 1
    have z2 := k1.frozen 2
    have z3 := k1.frozen 3
    have z4 := k1.frozen 4
    have z5 := k1.frozen 5
    simp at k10 k11 k12 k13 k14 k15
    clear k1 h3
    go_wp2
    refine bodyPost_ret (by simp [results, Tryz.results28, go_sem, t0, t1, t2, t3, t4, t5]; try rfl) rfl ?_
    refine ⟨by rw [HP.out], ?_⟩
    have hl : w.heap.size ≤ w.heap.size + 1 := Nat.le_succ _
    exact below_setCell' (below_setCell' (below_setCell' (below_setCell' (below_setCell' (below_setCell' HB4.out hl _) hl _) hl _) hl _) hl _) hl _

end Go.Proofs.YtpbcfgehmalppaaGreatDoor
