/- spec.New at leaves, and at any plain data. -/
import Derived.Test.YtpbcfgehmalppaaGreatDoorJsI
namespace Go.Proofs.YtpbcfgehmalppaaGreatDoor
open Go.RowKit

attribute [local go_sem] run_store_float

theorem Leaf2_any (w : World) : Calls Tryz.prog 33 #[.int .i64 2] w fun e w' => e = .returned (.bool true) ∧ w' = w := by
  go_enter Tryz.func33, Tryz.ntmps33
  go_wp2
  go_ret
  exact ⟨rfl, rfl⟩

set_option maxHeartbeats 400000 in
set_option maxRecDepth 100000 in
theorem New_line {B : Nat} {A K : Option Addr} {n m c c' : Nat} {ns : List Nat} (d : Int) (w : World) (h : Reads w B 1 A n (flV ns)) (hc : n ≤ c) (hB : B ≤ w.heap.size) (hn : n ≤ 1000000000) :
    Calls Tryz.prog 13 #[.agg #[.int .i64 2, .int .i64 d, .slice A n c, .slice K m c']] w fun e w' =>
      ∃ v, e = .returned (.agg #[.int .i64 2, .int .i64 (d % 4), v, .slice none 0 0]) ∧ Rw 45 w w' none v (flV (ns.take (n / wd (d % 4) * wd (d % 4)))) := by
  have hnl : ns.length = n := by have := h.1; rw [flV_length] at this; omega
  have q0 : 0 ≤ d % 4 := by omega
  have q1 : d % 4 ≤ 3 := by omega
  have hwp : 2 ≤ wd (d % 4) ∧ wd (d % 4) ≤ 4 := by rcases wd_cases (d % 4) q0 q1 with ⟨_, h⟩ | ⟨_, h⟩ | ⟨_, h⟩ | ⟨_, h⟩ <;> rw [h] <;> omega
  have h3 := i64_and3 d
  have hwd := Width_any (d % 4) q0 q1
  generalize d % 4 = q at *
  have hle : n / wd q ≤ n := Nat.div_le_self _ _
  have hcv : (n : Int) / (wd q : Int) = ((n / wd q : Nat) : Int) := (Int.natCast_ediv n (wd q)).symm
  have hne0 : ((wd q : Int) == 0) = false := by rw [beq_eq_false_iff_ne]; omega
  generalize wd q = W at *
  have hb0 : 0 ≤ (n : Int) / (W : Int) ∧ (n : Int) / (W : Int) ≤ 1000000000 := by rw [hcv]; exact ⟨Int.natCast_nonneg _, by omega⟩
  obtain ⟨i0, hi0, hz0, hz1, hz2⟩ := info_parts info_f64
  have H := Lib.hid h
  have HNL := Lib.hid hnl
  have HWD := Lib.hid hwd
  have HCV := Lib.hid hcv
  clear h hnl hwd hcv
  go_enter Tryz.func13, Tryz.ntmps13
  go_wp2_with fail
  refine (Leaf2_any _).mono ?_
  rintro e w1 ⟨rfl, rfl⟩
  go_wp2
  go_quiet ((go_at_call 34; exact Calls.quiet_of_same (HWD.out _)))
  go_wp2
  obtain ⟨rr, hrr, hr1, hkn, hmul⟩ : ∃ rr : Nat, (n : Int) / (W : Int) = (rr : Int) ∧ rr ≤ n ∧ n / W * W ≤ n ∧ (rr : Int) * (W : Int) = ((n / W * W : Nat) : Int) :=
    ⟨n / W, HCV.out, Nat.div_le_self _ _, Nat.div_mul_le_self _ _, by rw [Int.natCast_mul]⟩
  rw [hrr]
  generalize hkk : n / W * W = kk at *
  have hwk : IntKind.i64.wrap (kk : Int) = (kk : Int) := by rw [IntKind.wrap_i64]; omega
  have hkc : kk ≤ c := by omega
  have HKK := Lib.hid hkk
  have HTK := Lib.hid (H.out.take hkn)
  clear hkk hrr
  have hb1 := ((((Below.refl w.heap.size w).alloc (Nat.le_refl _) (.cells #[.int .i64 2, .int .i64 d, .slice A n c, .slice K m c'] 25)).alloc (by simp) (.cells #[.int .i64 0, .int .i64 0, .slice none 0 0, .slice none 0 0] 25)).alloc (by simp; omega) (.cells #[.int .i64 2, .int .i64 q, .slice none 0 0, .slice none 0 0] 25))
  have HB1 := Lib.hid hb1
  clear hb1
  refine wp_region_still_tail 10 (by kernel_rfl) (by kernel_rfl) ?_
  simp only [List.take_succ_cons, List.take_zero, List.drop_succ_cons, List.drop_zero]
  change wpStill _ _ (World.drew _) _ _ _
  repeat still_step
  still_call (HWD.out _)
  still_step
  still_step
  refine wpStill_nil ?_
  change wpList _ _ _ _ _ (World.drew _)
  refine wpList_append_any _ rfl _ _ _ rfl 0 45 i0 (.float .f64 0) 1 8 Tryz.underlying22 hi0 hz0 hz1 hz2 rfl (by decide) _ 0 [] rfl (World.ownsRow_nil _ _ _ _) B _ kk _ (flV (ns.take kk)) rfl (by exact HTK.out.below (Below.drew (below_drewN (HB1.out.mono hB) _))) (flV_one _) (by simp only [maxLen]; omega) (by omega) (Nat.zero_le _) ?_
  intro v1 W1 ho hg hp
  have hg' : World.grownBy _ W1 none := hg
  have b2 := Blk.grown (Blk.drew (Blk.drewN (Blk.new ((w.alloc (.cells #[.int .i64 2, .int .i64 d, .slice A n c, .slice K m c'] 25)).alloc (.cells #[.int .i64 0, .int .i64 0, .slice none 0 0, .slice none 0 0] 25)) 25 #[.int .i64 2, .int .i64 q, .slice none 0 0, .slice none 0 0]) _)) hg' (by simp)
  have b1 := Blk.grown (Blk.drew (Blk.drewN (Blk.alloc (Blk.new (w.alloc (.cells #[.int .i64 2, .int .i64 d, .slice A n c, .slice K m c'] 25)) 25 #[.int .i64 0, .int .i64 0, .slice none 0 0, .slice none 0 0]) _) _)) hg' (by simp)
  rw [World.size_alloc, World.size_alloc] at b2
  rw [World.size_alloc] at b1
  have hbw : Below w.heap.size w W1 := (Below.drew (below_drewN HB1.out _)).trans ⟨hg'.os, hg'.tape, hg'.output, hg'.size, fun i hi => hg'.block i (Nat.lt_of_lt_of_le hi (Below.drew (below_drewN HB1.out _)).size) (by simp)⟩
  obtain ⟨A1, c1, rfl⟩ := own_shape ho
  have hp' : (Value.slice A1 kk c1).ownBlock = none ∨ ∃ g, (Value.slice A1 kk c1).ownBlock = some g ∧ w.heap.size + 3 ≤ g := hp.imp (fun e => e) (fun e => ⟨_, e, by simp⟩)
  have hne1 : (Value.slice A1 kk c1).ownBlock = none ∨ (Value.slice A1 kk c1).ownBlock ≠ some (w.heap.size + 1) := hp'.imp id fun ⟨g, e, hl⟩ he => by rw [e] at he; injection he with he; omega
  have hne2 : (Value.slice A1 kk c1).ownBlock = none ∨ (Value.slice A1 kk c1).ownBlock ≠ some (w.heap.size + 1 + 1) := hp'.imp id fun ⟨g, e, hl⟩ he => by rw [e] at he; injection he with he; omega
  have hpl : (Value.slice A1 kk c1).ownBlock = none ∨ ∃ g, (Value.slice A1 kk c1).ownBlock = some g ∧ w.heap.size ≤ g := hp'.imp id fun ⟨g, e, hl⟩ => ⟨g, e, by omega⟩
  rw [Nat.zero_add, List.nil_append] at ho
  have u2 : (W1.setCell ⟨w.heap.size + 1 + 1, 2, none⟩ (.slice A1 kk c1)).cell? ⟨w.heap.size + 1 + 1, 2, none⟩ = some (.slice A1 kk c1) := by simpa using (b2.set_ 2 (.slice A1 kk c1)).cell 2
  obtain ⟨t0, t1, t2, t3⟩ := four_cells (b1.far (p := ⟨w.heap.size + 1 + 1, 2, none⟩) (by simp) (.slice A1 kk c1)) (.int .i64 2) (.int .i64 q) (.slice A1 kk c1) (.slice none 0 0)
  have r0 := b2.cell 0
  have r1 := b2.cell 1
  have r2 := b2.cell 2
  have r3 := b2.cell 3
  have s0 := b1.cell 0
  have s1 := b1.cell 1
  have s2 := b1.cell 2
  have s3 := b1.cell 3
  have z2 := b2.frozen 2
  have y0 := b1.frozen 0
  have y1 := b1.frozen 1
  have y2 := b1.frozen 2
  have y3 := b1.frozen 3
  simp at r0 r1 r2 r3 s0 s1 s2 s3
  have HO := Lib.hid ho
  have HBW := Lib.hid hbw
  have HPL := Lib.hid hpl
  have HN1 := Lib.hid hne1
  have HN2 := Lib.hid hne2
  clear ho hbw hpl hne1 hne2 hp hp' hg hg' b1 b2
  go_wp2
  refine bodyPost_ret (by simp [results, Tryz.results13, go_sem, t0, t1, t2, t3]; try rfl) rfl ?_
  have hb := below_setCell' (below_setCell' (below_setCell' (below_setCell' (below_setCell' HBW.out (p := ⟨w.heap.size + 1 + 1, 2, none⟩) (by show w.heap.size ≤ w.heap.size + 1 + 1; omega) (.slice A1 kk c1)) (p := ⟨w.heap.size + 1, 0, none⟩) (Nat.le_succ _) (.int .i64 2)) (p := ⟨w.heap.size + 1, 1, none⟩) (Nat.le_succ _) (.int .i64 q)) (p := ⟨w.heap.size + 1, 2, none⟩) (Nat.le_succ _) (.slice A1 kk c1)) (p := ⟨w.heap.size + 1, 3, none⟩) (Nat.le_succ _) (.slice none 0 0)
  refine ⟨_, rfl, ?_⟩
  rw [HKK.out]
  have hfk : (flV (ns.take kk)).length = kk := by rw [flV_length, List.length_take, HNL.out]; omega
  refine ⟨?_, only_of_below hb none, HPL.out⟩
  rw [hfk]
  exact own_set (own_set (own_set (own_set (own_set HO.out HN2.out _) HN1.out _) HN1.out _) HN1.out _) HN1.out _

end Go.Proofs.YtpbcfgehmalppaaGreatDoor
