/- The package's envelope of two corners. -/
import Derived.Test.YtpbcfgehmalppaaDoorEsD
namespace Go.Proofs.YtpbcfgehmalppaaDoor
open Go.RowKit

attribute [local go_sem] run_store_float

theorem Blk.five {w : World} {g T : Nat} {a0 a1 a2 a3 a4 : Value} (h : Blk w g T #[a0, a1, a2, a3, a4]) (b0 b1 b2 b3 b4 : Value) :
    Blk (((((w.setCell ⟨g, 0, none⟩ b0).setCell ⟨g, 1, none⟩ b1).setCell ⟨g, 2, none⟩ b2).setCell ⟨g, 3, none⟩ b3).setCell ⟨g, 4, none⟩ b4) g T #[b0, b1, b2, b3, b4] := by
  have k := ((((h.set_ 0 b0).set_ 1 b1).set_ 2 b2).set_ 3 b3).set_ 4 b4
  simpa using k
theorem Blk.five_far {w : World} {g E T : Nat} {cs : Array Value} (h : Blk w g T cs) (hg : g ≠ E) (b0 b1 b2 b3 b4 : Value) :
    Blk (((((w.setCell ⟨E, 0, none⟩ b0).setCell ⟨E, 1, none⟩ b1).setCell ⟨E, 2, none⟩ b2).setCell ⟨E, 3, none⟩ b3).setCell ⟨E, 4, none⟩ b4) g T cs :=
  ((((h.far (p := ⟨E, 0, none⟩) hg b0).far (p := ⟨E, 1, none⟩) hg b1).far (p := ⟨E, 2, none⟩) hg b2).far (p := ⟨E, 3, none⟩) hg b3).far (p := ⟨E, 4, none⟩) hg b4

set_option maxHeartbeats 2000000 in
set_option maxRecDepth 100000 in
theorem NewEnvelope_two (a b c d : Nat) (ha : Fin64 a) (hb : Fin64 b) (hc : Fin64 c) (hd : Fin64 d) (na : a ≠ 9223372036854775808) (nb : b ≠ 9223372036854775808) (nc : c ≠ 9223372036854775808) (nd : d ≠ 9223372036854775808) (g : Nat) (w : World) (hg : Blk w g 59 #[.float .f64 a, .float .f64 b, .float .f64 c, .float .f64 d]) :
    Calls Tryd.prog 61 #[.slice (some ⟨g, 0, none⟩) 2 2] w fun e w' => e = .returned (.agg #[.float .f64 (fMin a c), .float .f64 (fMin b d), .float .f64 (fMax a c), .float .f64 (fMax b d), .bool true]) ∧ Below w.heap.size w w' := by
  have hEx := Expand_more a b c d ha hb hc hd na nb nc nd
  obtain ⟨p1, hp1⟩ : ∃ p, p = fMin a c := ⟨_, rfl⟩
  obtain ⟨p2, hp2⟩ : ∃ p, p = fMin b d := ⟨_, rfl⟩
  obtain ⟨p3, hp3⟩ : ∃ p, p = fMax a c := ⟨_, rfl⟩
  obtain ⟨p4, hp4⟩ : ∃ p, p = fMax b d := ⟨_, rfl⟩
  rw [← hp1, ← hp2, ← hp3, ← hp4] at hEx ⊢
  clear hp1 hp2 hp3 hp4
  have hEf := fun m n : Nat => fun w => Expand_first a b 0 0 0 0 w
  have HEX := Lib.hid hEx
  have HG := Lib.hid hg
  obtain ⟨ec, hec⟩ : ∃ ec : Nat → Array Value, ec = fun k => if k = 0 then #[.float .f64 0, .float .f64 0, .float .f64 0, .float .f64 0, .bool false] else if k = 1 then #[.float .f64 a, .float .f64 b, .float .f64 a, .float .f64 b, .bool true] else #[.float .f64 p1, .float .f64 p2, .float .f64 p3, .float .f64 p4, .bool true] := ⟨_, rfl⟩
  have ec0 : ec 0 = #[.float .f64 0, .float .f64 0, .float .f64 0, .float .f64 0, .bool false] := by rw [hec]; rfl
  have ec1 : ec 1 = #[.float .f64 a, .float .f64 b, .float .f64 a, .float .f64 b, .bool true] := by rw [hec]; rfl
  have ec2 : ec 2 = #[.float .f64 p1, .float .f64 p2, .float .f64 p3, .float .f64 p4, .bool true] := by rw [hec]; rfl
  clear hec hEx hg
  have hgl := HG.out.lt
  have hA : Below w.heap.size w (w.alloc (.cells #[.float .f64 0, .float .f64 0, .float .f64 0, .float .f64 0, .bool false] 83)) := (Below.refl _ _).alloc (Nat.le_refl _) _
  have HB := Lib.hid (hA.alloc (by simp) (.cells #[.float .f64 0, .float .f64 0, .float .f64 0, .float .f64 0, .bool false] 83))
  have k0 := (Blk.new w 83 #[.float .f64 0, .float .f64 0, .float .f64 0, .float .f64 0, .bool false]).alloc (.cells #[.float .f64 0, .float .f64 0, .float .f64 0, .float .f64 0, .bool false] 83)
  have k1 := Blk.new (w.alloc (.cells #[.float .f64 0, .float .f64 0, .float .f64 0, .float .f64 0, .bool false] 83)) 83 #[.float .f64 0, .float .f64 0, .float .f64 0, .float .f64 0, .bool false]
  rw [World.size_alloc] at k1
  have K0 := Lib.hid k0
  have K1 := Lib.hid k1
  have EC0 := Lib.hid ec0
  have EC1 := Lib.hid ec1
  have EC2 := Lib.hid ec2
  clear hA k0 k1 ec0 ec1 ec2
  go_enter Tryd.func61, Tryd.ntmps61
  go_wp2
  go_loopw [8] (fun i wr => ∃ k : Nat, k ≤ 2 ∧ i = .int .i64 k ∧ Blk wr (w.heap.size + 1) 83 (ec k) ∧ Blk wr w.heap.size 83 #[.float .f64 0, .float .f64 0, .float .f64 0, .float .f64 0, .bool false] ∧ Below w.heap.size w wr) (fun i _ => 2 - (intOf i).toNat)
  case atStart => exact ⟨0, by omega, rfl, by rw [EC0.out]; exact K1.out, K0.out, HB.out⟩
  case round =>
    obtain ⟨k, hk, rfl, hE, hR, hW⟩ := hrel
    have hgr := HG.out.below hW hgl
    have hws := hW.size
    have hes := hE.lt
    rcases (show k = 0 ∨ k = 1 ∨ k = 2 by omega) with rfl | rfl | rfl
    · rw [EC0.out] at hE
      have c0 := hgr.cell 0
      have c1 := hgr.cell 1
      have x0 := fun o : Obj => (hE.alloc o).cell 0
      have x1 := fun o : Obj => (hE.alloc o).cell 1
      have x2 := fun o : Obj => (hE.alloc o).cell 2
      have x3 := fun o : Obj => (hE.alloc o).cell 3
      have x4 := fun o : Obj => (hE.alloc o).cell 4
      simp at c0 c1 x0 x1 x2 x3 x4
      have HE := Lib.hid hE
      have HR := Lib.hid hR
      have HW := Lib.hid hW
      clear hE hR hW hgr
      go_wp2_with fail
      refine (Expand_first a b 0 0 0 0 _).mono ?_
      rintro e w1 ⟨rfl, h1⟩
      have hW1 := (HW.out.alloc hws (.cells #[.float .f64 a, .float .f64 b] 59)).trans (h1.mono (by simp; omega))
      have hE1 := (HE.out.alloc (.cells #[.float .f64 a, .float .f64 b] 59)).below h1 (by simp; omega)
      have hR1 := (HR.out.alloc (.cells #[.float .f64 a, .float .f64 b] 59)).below h1 (by simp; omega)
      have r0 := hE1.cell 0
      have r1 := hE1.cell 1
      have r2 := hE1.cell 2
      have r3 := hE1.cell 3
      have r4 := hE1.cell 4
      have y0 := hE1.frozen 0
      have y1 := hE1.frozen 1
      have y2 := hE1.frozen 2
      have y3 := hE1.frozen 3
      have y4 := hE1.frozen 4
      simp at r0 r1 r2 r3 r4
      clear c0 c1 x0 x1 x2 x3 x4 h1
      go_wp2
      go_roundw
      case rel => exact ⟨1, by omega, by go_num, by rw [EC1.out]; exact hE1.five _ _ _ _ _, hR1.five_far (by omega) _ _ _ _ _, below_five hW1 (by omega) _ _ _ _ _⟩
      case measure => simp [intOf]
    · rw [EC1.out] at hE
      have c0 := hgr.cell 2
      have c1 := hgr.cell 3
      have x0 := fun o : Obj => (hE.alloc o).cell 0
      have x1 := fun o : Obj => (hE.alloc o).cell 1
      have x2 := fun o : Obj => (hE.alloc o).cell 2
      have x3 := fun o : Obj => (hE.alloc o).cell 3
      have x4 := fun o : Obj => (hE.alloc o).cell 4
      simp at c0 c1 x0 x1 x2 x3 x4
      have HE := Lib.hid hE
      have HR := Lib.hid hR
      have HW := Lib.hid hW
      clear hE hR hW hgr
      go_wp2_with fail
      refine (HEX.out _).mono ?_
      rintro e w1 ⟨rfl, h1⟩
      have hW1 := (HW.out.alloc hws (.cells #[.float .f64 c, .float .f64 d] 59)).trans (h1.mono (by simp; omega))
      have hE1 := (HE.out.alloc (.cells #[.float .f64 c, .float .f64 d] 59)).below h1 (by simp; omega)
      have hR1 := (HR.out.alloc (.cells #[.float .f64 c, .float .f64 d] 59)).below h1 (by simp; omega)
      have r0 := hE1.cell 0
      have r1 := hE1.cell 1
      have r2 := hE1.cell 2
      have r3 := hE1.cell 3
      have r4 := hE1.cell 4
      have y0 := hE1.frozen 0
      have y1 := hE1.frozen 1
      have y2 := hE1.frozen 2
      have y3 := hE1.frozen 3
      have y4 := hE1.frozen 4
      simp at r0 r1 r2 r3 r4
      clear c0 c1 x0 x1 x2 x3 x4 h1
      go_wp2
      go_roundw
      case rel => exact ⟨2, by omega, by go_num, by rw [EC2.out]; exact hE1.five _ _ _ _ _, hR1.five_far (by omega) _ _ _ _ _, below_five hW1 (by omega) _ _ _ _ _⟩
      case measure => simp [intOf]
    · rw [EC2.out] at hE
      obtain ⟨t0, t1, t2, t3, t4⟩ := five_cells hR (.float .f64 p1) (.float .f64 p2) (.float .f64 p3) (.float .f64 p4) (.bool true)
      have x0 := hE.cell 0
      have x1 := hE.cell 1
      have x2 := hE.cell 2
      have x3 := hE.cell 3
      have x4 := hE.cell 4
      have r0 := hR.cell 0
      have r1 := hR.cell 1
      have r2 := hR.cell 2
      have r3 := hR.cell 3
      have r4 := hR.cell 4
      have y0 := hR.frozen 0
      have y1 := hR.frozen 1
      have y2 := hR.frozen 2
      have y3 := hR.frozen 3
      have y4 := hR.frozen 4
      simp at x0 x1 x2 x3 x4 r0 r1 r2 r3 r4
      go_wp2
      refine bodyPost_ret (by simp [results, Tryd.results61, go_sem, t0, t1, t2, t3, t4]; try rfl) rfl ?_
      exact ⟨rfl, below_five hW (Nat.le_refl _) _ _ _ _ _⟩

theorem envelope_not (a b c d : Nat) (w : World) :
    Calls Tryd.prog 43 #[.agg #[.bool false, .float .f64 a, .float .f64 b, .float .f64 c, .float .f64 d]] w fun e w' => e = .returned (.agg #[.float .f64 0, .float .f64 0, .float .f64 0, .float .f64 0, .bool false]) ∧ Below w.heap.size w w' := by
  go_enter Tryd.func43, Tryd.ntmps43
  go_wp2
  go_returns
  exact ⟨rfl, by go_grown⟩
set_option maxRecDepth 100000 in
theorem envelope_full (a b c d : Nat) (ha : Fin64 a) (hb : Fin64 b) (hc : Fin64 c) (hd : Fin64 d) (na : a ≠ 9223372036854775808) (nb : b ≠ 9223372036854775808) (nc : c ≠ 9223372036854775808) (nd : d ≠ 9223372036854775808) (w : World) :
    Calls Tryd.prog 43 #[.agg #[.bool true, .float .f64 a, .float .f64 b, .float .f64 c, .float .f64 d]] w fun e w' => e = .returned (.agg #[.float .f64 (fMin a c), .float .f64 (fMin b d), .float .f64 (fMax a c), .float .f64 (fMax b d), .bool true]) ∧ Below w.heap.size w w' := by
  have hA : Below w.heap.size w (w.alloc (.cells #[.bool true, .float .f64 a, .float .f64 b, .float .f64 c, .float .f64 d] 46)) := (Below.refl _ _).alloc (Nat.le_refl _) _
  have hB := hA.alloc (by simp) (.cells #[.float .f64 0, .float .f64 0, .float .f64 0, .float .f64 0, .bool false] 83)
  have hC := hB.alloc (by simp; omega) (.cells #[.float .f64 a, .float .f64 b, .float .f64 c, .float .f64 d] 59)
  have k1 := (Blk.new (w.alloc (.cells #[.bool true, .float .f64 a, .float .f64 b, .float .f64 c, .float .f64 d] 46)) 83 #[.float .f64 0, .float .f64 0, .float .f64 0, .float .f64 0, .bool false]).alloc (.cells #[.float .f64 a, .float .f64 b, .float .f64 c, .float .f64 d] 59)
  have k2 := Blk.new ((w.alloc (.cells #[.bool true, .float .f64 a, .float .f64 b, .float .f64 c, .float .f64 d] 46)).alloc (.cells #[.float .f64 0, .float .f64 0, .float .f64 0, .float .f64 0, .bool false] 83)) 59 #[.float .f64 a, .float .f64 b, .float .f64 c, .float .f64 d]
  rw [World.size_alloc] at k1
  rw [World.size_alloc, World.size_alloc] at k2
  have hN := NewEnvelope_two a b c d ha hb hc hd na nb nc nd _ _ k2
  have HN := Lib.hid hN
  have HC := Lib.hid hC
  have K1 := Lib.hid k1
  clear hN hA hB hC k1 k2
  go_enter Tryd.func43, Tryd.ntmps43
  go_wp2_with fail
  refine HN.out.mono ?_
  rintro e w1 ⟨rfl, h1⟩
  have hD := HC.out.trans (h1.mono (by simp; omega))
  have hR := K1.out.below h1 (by simp)
  clear h1
  obtain ⟨t0, t1, t2, t3, t4⟩ := five_cells hR (.float .f64 (fMin a c)) (.float .f64 (fMin b d)) (.float .f64 (fMax a c)) (.float .f64 (fMax b d)) (.bool true)
  have r0 := hR.cell 0
  have r1 := hR.cell 1
  have r2 := hR.cell 2
  have r3 := hR.cell 3
  have r4 := hR.cell 4
  have y0 := hR.frozen 0
  have y1 := hR.frozen 1
  have y2 := hR.frozen 2
  have y3 := hR.frozen 3
  have y4 := hR.frozen 4
  simp at r0 r1 r2 r3 r4
  go_wp2
  refine bodyPost_ret (by simp [results, Tryd.results43, go_sem, t0, t1, t2, t3, t4]; try rfl) rfl ?_
  exact ⟨rfl, below_five hD (Nat.le_succ _) _ _ _ _ _⟩

end Go.Proofs.YtpbcfgehmalppaaDoor
