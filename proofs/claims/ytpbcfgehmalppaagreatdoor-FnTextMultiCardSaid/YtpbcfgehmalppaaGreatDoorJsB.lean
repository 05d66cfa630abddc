/- A point made of plain data: sequence, its length and its places, the point. -/
import Derived.Test.YtpbcfgehmalppaaGreatDoorJsA
import Derived.Test.YtpbcfgehmalppaaGreatDoorFtG
import Derived.Laws.MakeOwn
import Derived.Laws.CopyOwn
import Derived.BigRegion
namespace Go.Proofs.YtpbcfgehmalppaaGreatDoor
open Go.RowKit

attribute [local go_sem] run_store_float

/-- How many numbers a place has. -/
def wd (d : Int) : Nat := 2 + (d % 2).toNat + (d / 2 % 2).toNat
theorem wd_cases (d : Int) (h0 : 0 ≤ d) (h1 : d ≤ 3) : (d = 0 ∧ wd d = 2) ∨ (d = 1 ∧ wd d = 3) ∨ (d = 2 ∧ wd d = 3) ∨ (d = 3 ∧ wd d = 4) := by
  have h : d = 0 ∨ d = 1 ∨ d = 2 ∨ d = 3 := by omega
  rcases h with rfl | rfl | rfl | rfl <;> simp [wd]

set_option maxRecDepth 100000 in
theorem run_dims (d : Int) (n : Nat) (h : (d = 0 ∧ n = 2) ∨ (d = 1 ∧ n = 3) ∨ (d = 2 ∧ n = 3) ∨ (d = 3 ∧ n = 4)) (w : World) :
    (Instr.index 148 (.agg #[.int .i64 2, .int .i64 3, .int .i64 3, .int .i64 4]) (.int .u8 d)).run Tryz.prog w = .ok (.int .i64 n) w := by
  rcases h with ⟨rfl, rfl⟩ | ⟨rfl, rfl⟩ | ⟨rfl, rfl⟩ | ⟨rfl, rfl⟩ <;> rfl

set_option maxRecDepth 100000 in
theorem dimension_any (d : Int) (h0 : 0 ≤ d) (h1 : d ≤ 3) (w : World) : Calls Tryz.prog 106 #[.int .u8 d] w fun e w' => e = .returned (.int .i64 (wd d)) ∧ w' = w := by
  have h := run_dims d (wd d) (wd_cases d h0 h1)
  generalize wd d = n at *
  go_enter Tryz.func106, Tryz.ntmps106
  go_wp2
  go_ret
  exact ⟨rfl, rfl⟩

set_option maxRecDepth 100000 in
theorem NewSequence_any (d : Int) (h0 : 0 ≤ d) (h1 : d ≤ 3) (A : Option Addr) (n c : Nat) (hn : n % wd d = 0) (w : World) :
    Calls Tryz.prog 107 #[.slice A n c, .int .u8 d] w fun e w' => e = .returned (.agg #[.int .u8 d, .slice A n c]) ∧ Below w.heap.size w w' := by
  have hwp : 2 ≤ wd d ∧ wd d ≤ 4 := by rcases wd_cases d h0 h1 with ⟨_, h⟩ | ⟨_, h⟩ | ⟨_, h⟩ | ⟨_, h⟩ <;> rw [h] <;> omega
  have hm : ((n : Int) % (wd d : Int)) = 0 := by omega
  have ht : ((n : Int).tmod (wd d : Int)) = 0 := by rw [Int.tmod_eq_emod_of_nonneg (by omega)]; exact hm
  go_enter Tryz.func107, Tryz.ntmps107
  go_wp2_with fail
  refine (dimension_any d h0 h1 _).mono ?_
  rintro e w1 ⟨rfl, rfl⟩
  generalize hq : (wd d : Int) = q at *
  go_wp2
  go_returns
  exact ⟨rfl, by go_grown⟩


theorem below_setCell' {B : Nat} {w w1 : World} (h : Below B w w1) {p : Addr} (hp : B ≤ p.block) (u : Value) : Below B w (w1.setCell p u) :=
  h.trans ⟨rfl, rfl, rfl, by simp [World.setCell], fun k hk => Below.heap_setCell _ p u k (by omega)⟩
theorem madeCells_one (v : Value) (k : Nat) : madeCells #[v] k = (List.replicate k v).toArray := by
  have h := toList_madeCells_one v k
  rw [← h]
theorem run_copy_made {P : Program} {w : World} {dT sT ty e t : TypeId} {g k n c : Nat} {A : Option Addr} {z : Value} {cs : List Value} (hu : P.underlying dT = some (.slice e)) (hs : (P.info? e).map (·.size) = some 1)
    (hg : w.heap[g]? = some (.cells (List.replicate k z).toArray t (0, 0))) (hcs : cs.length = k) (hkn : k ≤ n) (hrd : 0 < k → ∃ ad, A = some ad ∧ ∀ j v, cs[j]? = some v → w.cell? (ad.add j) = some v) (h1 : ∀ v ∈ cs, v.oneCell' = true) :
    ∃ w', (Builtin.copy_ #[dT, sT] ty #[.slice (some ⟨g, 0, none⟩) k k, .slice A n c]).run P w = .ok (.int .i64 k) w' ∧ w'.heap[g]? = some (.cells cs.toArray t (0, 0)) ∧ ∀ B, B ≤ g → Below B w w' := by
  by_cases h0 : k = 0
  · subst h0
    obtain rfl : cs = [] := List.eq_nil_of_length_eq_zero hcs
    exact ⟨w, run_copy_none w dT sT ty e _ A 0 0 n c hu hs (by simp), by simpa using hg, fun B _ => Below.refl _ _⟩
  · obtain ⟨ad, rfl, hc⟩ := hrd (by omega)
    have h := run_copy_row (P := P) w dT sT ty e g 0 k k ad n c _ t cs hu hs hg (by rw [hcs]; exact (Nat.min_eq_right hkn).symm) hc (by simp [hcs]) h1
    rw [hcs] at h
    have e : ((List.replicate k z).toArray.toList.take 0 ++ cs ++ (List.replicate k z).toArray.toList.drop (0 + k)) = cs := by simp
    rw [e] at h
    exact ⟨_, h, setRow_heap w g _ _ t _ hg, fun B hB => below_setRow (Below.refl _ _) hB _⟩

set_option maxHeartbeats 1000000 in
set_option maxRecDepth 100000 in
theorem sequence_any {B : Nat} {A : Option Addr} {n c : Nat} {ns : List Nat} (d : Int) (w : World) (h : Reads w B 1 A n (flV ns)) (hB : B ≤ w.heap.size) (hn : n ≤ 1000000000) (k : Nat) (hk : k = n - n % wd (d % 4)) :
    Calls Tryz.prog 51 #[.slice A n c, .int .i64 d] w fun e w' => ∃ g, e = .returned (.agg #[.int .u8 (d % 4), .slice (some ⟨g, 0, none⟩) k k]) ∧ w.heap.size ≤ g ∧ Blk w' g 45 (flV (ns.take k)).toArray ∧ Below w.heap.size w w' := by
  have hnl : ns.length = n := by have := h.1; rw [flV_length] at this; omega
  have q0 : 0 ≤ d % 4 := by omega
  have q1 : d % 4 ≤ 3 := by omega
  have hg := dimOf_any d
  generalize d % 4 = q at *
  have hwp : 2 ≤ wd q ∧ wd q ≤ 4 := by rcases wd_cases q q0 q1 with ⟨_, h⟩ | ⟨_, h⟩ | ⟨_, h⟩ | ⟨_, h⟩ <;> rw [h] <;> omega
  have hwd := dimension_any q q0 q1
  have hns := NewSequence_any q q0 q1
  have hmod : (n : Int).tmod (wd q) = ((n % wd q : Nat) : Int) := by rw [Int.tmod_eq_emod_of_nonneg (by omega)]; exact (Int.natCast_emod n (wd q)).symm
  have hle : n % wd q ≤ n := Nat.mod_le _ _
  have hk0 : k % wd q = 0 := by
    rw [hk]
    exact Nat.sub_mod_eq_zero_of_mod_eq (by rw [Nat.mod_mod])
  have hsub : (n : Int) - ((n % wd q : Nat) : Int) = (k : Int) := by omega
  have hne : ((wd q : Int) == 0) = false := by rw [beq_eq_false_iff_ne]; omega
  generalize wd q = W at *
  obtain ⟨i0, hi0, hz0, hz1, hz2⟩ := info_parts info_f64
  have hsub2 : (n : Int) - (n : Int) % (W : Int) = (k : Int) := by rw [← Int.natCast_emod]; exact hsub
  have hmk : ∀ w : World, (Instr.makeSlice 22 (.int .i64 ((n : Int) - (n : Int) % (W : Int))) (.int .i64 ((n : Int) - (n : Int) % (W : Int)))).run Tryz.prog w = .ok (.slice (some ⟨w.heap.size, 0, none⟩) k k) (w.alloc (.cells (madeCells #[.float .f64 0] k) 45)) := fun w => by
    rw [hsub2]
    have h := run_make_rowN (P := Tryz.prog) 22 45 i0 (.float .f64 0) Tryz.underlying22 hi0 hz0 .i64 .i64 k k (Nat.le_refl _) (by rw [hz2]; omega) (by omega) w
    rw [hz1, Nat.mul_one] at h
    exact h
  have hmk2 := fun w : World => hmk w
  rw [hsub2] at hmk2
  have hmc : ((w.alloc (.cells #[.int .u8 0, .slice none 0 0] 78)).alloc (.cells (madeCells #[.float .f64 0] k) 45)).heap[w.heap.size + 1]? = some (.cells (List.replicate k (Value.float .f64 0)).toArray 45 (0, 0)) := by
    have h := Blk.new (w.alloc (.cells #[.int .u8 0, .slice none 0 0] 78)) 45 (madeCells #[.float .f64 0] k)
    rw [World.size_alloc] at h
    refine h.trans ?_
    congr 2
    exact madeCells_one _ k
  have hrd : 0 < k → ∃ ad, A = some ad ∧ ∀ j v, (flV (ns.take k))[j]? = some v → ((w.alloc (.cells #[.int .u8 0, .slice none 0 0] 78)).alloc (.cells (madeCells #[.float .f64 0] k) 45)).cell? (ad.add j) = some v := fun hk => by
    obtain ⟨ad, e, hb, hc⟩ := h.2 (by omega)
    refine ⟨ad, e, fun j v hv => ?_⟩
    rw [World.cell?_alloc_lt _ _ _ (by rw [block_of_add]; simp; omega), World.cell?_alloc_lt _ _ _ (by rw [block_of_add]; omega)]
    refine hc j v ?_
    unfold flV at hv ⊢
    rw [List.getElem?_map, List.getElem?_take] at hv
    split at hv
    · rw [List.getElem?_map]; exact hv
    · simp at hv
  have HMC := Lib.hid hmc
  have HRD := Lib.hid hrd
  clear hmc hrd
  have HR := Lib.hid h
  have HNL := Lib.hid hnl
  have HD := Lib.hid hwd
  have HS := Lib.hid hns
  have hcs : (flV (ns.take k)).length = k := by rw [flV_length, List.length_take, hnl]; omega
  have HCS := Lib.hid hcs
  have hkn : k ≤ n := by omega
  clear h hnl hwd hns hmod hcs hk hsub
  obtain ⟨W2, hcp, hgh, hbel⟩ := run_copy_made (P := Tryz.prog) (sT := 22) (ty := 3) (c := c) (e := 45) (t := 45) Tryz.underlying22 (by kernel_rfl) HMC.out HCS.out hkn HRD.out (flV_one _)
  have hB2 : Below w.heap.size w W2 := (((Below.refl _ w).alloc (Nat.le_refl _) _).alloc (by simp) _).trans (hbel _ (by omega))
  have HG := Lib.hid hgh
  have HB2 := Lib.hid hB2
  have HBE := Lib.hid hbel
  clear hgh hbel hB2
  go_enter Tryz.func51, Tryz.ntmps51
  go_wp2_with fail
  refine (hg _).mono ?_
  rintro e w1 ⟨rfl, rfl⟩
  go_wp2_with fail
  refine (HD.out _).mono ?_
  rintro e w1 ⟨rfl, rfl⟩
  go_wp2_with fail
  refine (HS.out _ k k hk0 _).mono ?_
  rintro e w3 ⟨rfl, h3⟩
  have hwz : w.heap.size ≤ W2.heap.size := HB2.out.size
  have hwz2 : w.heap.size + 2 ≤ W2.heap.size := by
    have hg := HG.out
    rcases Nat.lt_or_ge (w.heap.size + 1) W2.heap.size with h | h
    · exact h
    · rw [Array.getElem?_eq_none h] at hg; cases hg
  have hb3 : Below (w.heap.size + 1) (w.alloc (.cells #[.int .u8 0, .slice none 0 0] 78)) w3 := ((Below.refl _ _).alloc (by simp) _).trans ((HBE.out _ (Nat.le_refl _)).trans (h3.mono (by omega)))
  have c0 := (Blk.new w 78 #[.int .u8 0, .slice none 0 0]).below hb3 (by omega)
  have f0 := c0.frozen 0
  have f1 := c0.frozen 1
  have d0 := c0.cell 0
  have d1 := c0.cell 1
  simp at d0 d1
  have H3 := Lib.hid h3
  have HB3 := Lib.hid hb3
  clear h3 hb3 c0
  have hblk : Blk w3 (w.heap.size + 1) 45 (flV (ns.take k)).toArray := Blk.below (w := W2) HG.out (H3.out.mono (Nat.le_refl _)) (by omega)
  have HBK := Lib.hid hblk
  have c0 := (Blk.new w 78 #[.int .u8 0, .slice none 0 0]).below HB3.out (by omega)
  have e0 : (w3.setCell ⟨w.heap.size, 0, none⟩ (.int .u8 q)).cell? ⟨w.heap.size, 0, none⟩ = some (.int .u8 q) := by simpa using (c0.set_ 0 (.int .u8 q)).cell 0
  have e1 : ((w3.setCell ⟨w.heap.size, 0, none⟩ (.int .u8 q)).setCell ⟨w.heap.size, 1, none⟩ (.slice (some ⟨w.heap.size + 1, 0, none⟩) k k)).cell? ⟨w.heap.size, 1, none⟩ = some (.slice (some ⟨w.heap.size + 1, 0, none⟩) k k) := by
    simpa using ((c0.set_ 0 (.int .u8 q)).set_ 1 (.slice (some ⟨w.heap.size + 1, 0, none⟩) k k)).cell 1
  clear hblk c0
  go_wp2
  refine bodyPost_ret (by simp [results, Tryz.results51, go_sem, e0, e1]; try rfl) rfl ?_
  refine ⟨_, rfl, by omega, (HBK.out.far (by simp) _).far (by simp) _, ?_⟩
  exact (below_setCell' (below_setCell' (HB2.out.trans (H3.out.mono hwz)) (Nat.le_refl _) _) (Nat.le_refl _) _)


set_option maxRecDepth 100000 in
theorem Length_any (q : Int) (q0 : 0 ≤ q) (q1 : q ≤ 3) (A : Option Addr) (n c : Nat) (hn : n ≤ 1000000000) (w : World) :
    Calls Tryz.prog 52 #[.agg #[.int .u8 q, .slice A n c]] w fun e w' => e = .returned (.int .i64 ((n / wd q : Nat) : Int)) ∧ Below w.heap.size w w' := by
  have hwp : 2 ≤ wd q ∧ wd q ≤ 4 := by rcases wd_cases q q0 q1 with ⟨_, h⟩ | ⟨_, h⟩ | ⟨_, h⟩ | ⟨_, h⟩ <;> rw [h] <;> omega
  have hwd := dimension_any q q0 q1
  have hdiv : (n : Int).tdiv (wd q) = ((n / wd q : Nat) : Int) := by rw [Int.tdiv_eq_ediv_of_nonneg (by omega)]; exact (Int.natCast_ediv n (wd q)).symm
  have hne : ((wd q : Int) == 0) = false := by rw [beq_eq_false_iff_ne]; omega
  have hle : n / wd q ≤ n := Nat.div_le_self _ _
  generalize wd q = W at *
  have hcv : (n : Int) / (W : Int) = ((n / W : Nat) : Int) := (Int.natCast_ediv n W).symm
  have hb0 : 0 ≤ (n : Int) / (W : Int) ∧ (n : Int) / (W : Int) ≤ 1000000000 := by rw [hcv]; exact ⟨Int.natCast_nonneg _, by omega⟩
  have HCV := Lib.hid hcv
  clear hdiv hcv
  go_enter Tryz.func52, Tryz.ntmps52
  go_wp2
  go_quiet ((go_at_call 106; exact Calls.quiet_of_same (hwd _)))
  go_wp2
  go_ret
  exact ⟨congrArg (fun x => Ending.returned (Value.int .i64 x)) HCV.out, below_drewN (by go_grown) _⟩

/-- The i-th place of numbers under a type. -/
def ptN (q : Int) (ns : List Nat) (i : Nat) : Pl :=
  (ns.getD (i * wd q) 0, ns.getD (i * wd q + 1) 0, if q % 2 = 1 then ns.getD (i * wd q + 2) 0 else 0, if q / 2 % 2 = 1 then ns.getD (i * wd q + (wd q - 1)) 0 else 0)

theorem blk_fl {w : World} {g T : Nat} {ns : List Nat} (h : Blk w g T (flV ns).toArray) (j : Nat) (hj : j < ns.length) : w.cell? ⟨g, j, none⟩ = some (.float .f64 (ns.getD j 0)) := by
  rw [h.cell j]
  simp [flV, List.getD_eq_getElem?_getD, List.getElem?_eq_getElem hj]

end Go.Proofs.YtpbcfgehmalppaaGreatDoor
