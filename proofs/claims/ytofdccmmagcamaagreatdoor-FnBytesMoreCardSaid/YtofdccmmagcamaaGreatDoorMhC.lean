import Derived.Test.YtofdccmmagcamaaGreatDoorMhB
import Derived.Test.YtofdccmmagcamaaGreatDoorMhA
import Derived.Laws.MakeOwn
import Derived.Laws.CopyOwn
import Derived.BigRegion
import Derived.Laws.Concat
/- A point made of plain data: sequence, its length and its places, the point. -/
set_option maxHeartbeats 8000000
set_option linter.unusedSimpArgs false
set_option linter.unusedVariables false
namespace Go.Proofs.YtofdccmmagcamaaGreatDoor
open Go.RowKit

attribute [local go_sem] run_store_float

/-- How many numbers a place has. -/
def wd (d : Int) : Nat := 2 + (d % 2).toNat + (d / 2 % 2).toNat
theorem wd_cases (d : Int) (h0 : 0 ≤ d) (h1 : d ≤ 3) : (d = 0 ∧ wd d = 2) ∨ (d = 1 ∧ wd d = 3) ∨ (d = 2 ∧ wd d = 3) ∨ (d = 3 ∧ wd d = 4) := by
  have h : d = 0 ∨ d = 1 ∨ d = 2 ∨ d = 3 := by omega
  rcases h with rfl | rfl | rfl | rfl <;> simp [wd]

set_option maxRecDepth 100000 in
theorem run_dims (d : Int) (n : Nat) (h : (d = 0 ∧ n = 2) ∨ (d = 1 ∧ n = 3) ∨ (d = 2 ∧ n = 3) ∨ (d = 3 ∧ n = 4)) (w : World) :
    (Instr.index 261 (.agg #[.int .i64 2, .int .i64 3, .int .i64 3, .int .i64 4]) (.int .u8 d)).run Tryz.prog w = .ok (.int .i64 n) w := by
  rcases h with ⟨rfl, rfl⟩ | ⟨rfl, rfl⟩ | ⟨rfl, rfl⟩ | ⟨rfl, rfl⟩ <;> rfl

set_option maxRecDepth 100000 in
theorem dimension_any (d : Int) (h0 : 0 ≤ d) (h1 : d ≤ 3) (w : World) : Calls Tryz.prog 166 #[.int .u8 d] w fun e w' => e = .returned (.int .i64 (wd d)) ∧ w' = w := by
  have h := run_dims d (wd d) (wd_cases d h0 h1)
  generalize wd d = n at *
  go_enter Tryz.func166, Tryz.ntmps166
  go_wp2
  go_ret
  exact ⟨rfl, rfl⟩

set_option maxRecDepth 100000 in
theorem NewSequence_any (d : Int) (h0 : 0 ≤ d) (h1 : d ≤ 3) (A : Option Addr) (n c : Nat) (hn : n % wd d = 0) (w : World) :
    Calls Tryz.prog 167 #[.slice A n c, .int .u8 d] w fun e w' => e = .returned (.agg #[.int .u8 d, .slice A n c]) ∧ Below w.heap.size w w' := by
  have hwp : 2 ≤ wd d ∧ wd d ≤ 4 := by rcases wd_cases d h0 h1 with ⟨_, h⟩ | ⟨_, h⟩ | ⟨_, h⟩ | ⟨_, h⟩ <;> rw [h] <;> omega
  have hm : ((n : Int) % (wd d : Int)) = 0 := by omega
  have ht : ((n : Int).tmod (wd d : Int)) = 0 := by rw [Int.tmod_eq_emod_of_nonneg (by omega)]; exact hm
  go_enter Tryz.func167, Tryz.ntmps167
  go_wp2_with fail
  refine (dimension_any d h0 h1 _).mono ?_
  rintro e w1 ⟨rfl, rfl⟩
  generalize hq : (wd d : Int) = q at *
  go_wp2
  go_returns
  exact ⟨rfl, by go_grown⟩


theorem below_setCell' {B : Nat} {w w1 : World} (h : Below B w w1) {p : Addr} (hp : B ≤ p.block) (u : Value) : Below B w (w1.setCell p u) :=
  h.trans ⟨rfl, rfl, rfl, by simp [World.setCell], fun k hk => Below.heap_setCell _ p u k (by omega)⟩
theorem madeCells_one (v : Value) (k : Nat) : madeCells #[v] k = (List.replicate k v).toArray := by
  have h := toList_madeCells_one v k
  rw [← h]
theorem run_copy_made {P : Program} {w : World} {dT sT ty e t : TypeId} {g k n c : Nat} {A : Option Addr} {z : Value} {cs : List Value} (hu : P.underlying dT = some (.slice e)) (hs : (P.info? e).map (·.size) = some 1)
    (hg : w.heap[g]? = some (.cells (List.replicate k z).toArray t (0, 0))) (hcs : cs.length = k) (hkn : k ≤ n) (hrd : 0 < k → ∃ ad, A = some ad ∧ ∀ j v, cs[j]? = some v → w.cell? (ad.add j) = some v) (h1 : ∀ v ∈ cs, v.oneCell' = true) :
    ∃ w', (Builtin.copy_ #[dT, sT] ty #[.slice (some ⟨g, 0, none⟩) k k, .slice A n c]).run P w = .ok (.int .i64 k) w' ∧ w'.heap[g]? = some (.cells cs.toArray t (0, 0)) ∧ ∀ B, B ≤ g → Below B w w' := by
  by_cases h0 : k = 0
  · subst h0
    obtain rfl : cs = [] := List.eq_nil_of_length_eq_zero hcs
    exact ⟨w, run_copy_none w dT sT ty e _ A 0 0 n c hu hs (by simp), by simpa using hg, fun B _ => Below.refl _ _⟩
  · obtain ⟨ad, rfl, hc⟩ := hrd (by omega)
    have h := run_copy_row (P := P) w dT sT ty e g 0 k k ad n c _ t cs hu hs hg (by rw [hcs]; exact (Nat.min_eq_right hkn).symm) hc (by simp [hcs]) h1
    rw [hcs] at h
    have e : ((List.replicate k z).toArray.toList.take 0 ++ cs ++ (List.replicate k z).toArray.toList.drop (0 + k)) = cs := by simp
    rw [e] at h
    exact ⟨_, h, setRow_heap w g _ _ t _ hg, fun B hB => below_setRow (Below.refl _ _) hB _⟩

set_option maxRecDepth 100000 in
theorem Length_any (q : Int) (q0 : 0 ≤ q) (q1 : q ≤ 3) (A : Option Addr) (n c : Nat) (hn : n ≤ 1000000000) (w : World) :
    Calls Tryz.prog 122 #[.agg #[.int .u8 q, .slice A n c]] w fun e w' => e = .returned (.int .i64 ((n / wd q : Nat) : Int)) ∧ Below w.heap.size w w' := by
  have hwp : 2 ≤ wd q ∧ wd q ≤ 4 := by rcases wd_cases q q0 q1 with ⟨_, h⟩ | ⟨_, h⟩ | ⟨_, h⟩ | ⟨_, h⟩ <;> rw [h] <;> omega
  have hwd := dimension_any q q0 q1
  have hdiv : (n : Int).tdiv (wd q) = ((n / wd q : Nat) : Int) := by rw [Int.tdiv_eq_ediv_of_nonneg (by omega)]; exact (Int.natCast_ediv n (wd q)).symm
  have hne : ((wd q : Int) == 0) = false := by rw [beq_eq_false_iff_ne]; omega
  have hle : n / wd q ≤ n := Nat.div_le_self _ _
  generalize wd q = W at *
  have hcv : (n : Int) / (W : Int) = ((n / W : Nat) : Int) := (Int.natCast_ediv n W).symm
  have hb0 : 0 ≤ (n : Int) / (W : Int) ∧ (n : Int) / (W : Int) ≤ 1000000000 := by rw [hcv]; exact ⟨Int.natCast_nonneg _, by omega⟩
  have HCV := Hd hcv
  clear hdiv hcv
  go_enter Tryz.func122, Tryz.ntmps122
  go_wp2
  go_quiet ((go_at_call 166; exact Calls.quiet_of_same (hwd _)))
  go_wp2
  go_ret
  exact ⟨congrArg (fun x => Ending.returned (Value.int .i64 x)) HCV.out, below_drewN (by go_grown) _⟩

/-- The i-th place of numbers under a type. -/
def ptN (q : Int) (ns : List Nat) (i : Nat) : Pl :=
  (ns.getD (i * wd q) 0, ns.getD (i * wd q + 1) 0, if q % 2 = 1 then ns.getD (i * wd q + 2) 0 else 0, if q / 2 % 2 = 1 then ns.getD (i * wd q + (wd q - 1)) 0 else 0)

theorem blk_fl {w : World} {g T : Nat} {ns : List Nat} (h : Blk w g T (flV ns).toArray) (j : Nat) (hj : j < ns.length) : w.cell? ⟨g, j, none⟩ = some (.float .f64 (ns.getD j 0)) := by
  rw [h.cell j]
  simp [flV, List.getD_eq_getElem?_getD, List.getElem?_eq_getElem hj]

end Go.Proofs.YtofdccmmagcamaaGreatDoor

/- A place out of a sequence: Sequence.Get, under each type of coordinates (printed by gen_get.py). -/
set_option maxHeartbeats 8000000
set_option linter.unusedSimpArgs false
set_option linter.unusedVariables false
namespace Go.Proofs.YtofdccmmagcamaaGreatDoor
open Go.RowKit

attribute [local go_sem] run_store_float

set_option maxRecDepth 100000 in
theorem Get0 (g i : Nat) (n c : Nat) (ns : List Nat) (w : World) (h : Blk w g 73 (flV ns).toArray) (hn : ns.length = n) (hi : (i + 1) * 2 ≤ n) (hl : n ≤ 1000000000) :
    Calls Tryz.prog 125 #[.agg #[.int .u8 0, .slice (some ⟨g, 0, none⟩) n c], .int .i64 i] w fun e w' =>
      e = .returned (.agg #[.float .f64 (ns.getD (i * 2) 0), .float .f64 (ns.getD (i * 2 + 1) 0), .float .f64 (0), .float .f64 (0), .int .u8 0]) ∧ Below w.heap.size w w' := by
  have c0 := blk_fl h (i * 2) (by omega)
  have c1 := blk_fl h (i * 2 + 1) (by omega)
  generalize ns.getD (i * 2) 0 = x at *
  generalize ns.getD (i * 2 + 1) 0 = y at *
  have hgl := h.lt
  have H := Hd h
  clear h hn
  have hw2 : wd 0 = 2 := by simp [wd]
  go_enter Tryz.func125, Tryz.ntmps125
  go_wp2_with fail
  refine (dimension_any 0 (by omega) (by omega) _).mono ?_
  rintro e w1 ⟨rfl, rfl⟩
  rw [hw2]
  have b0 := (Blk.new w 87 #[.int .u8 0, .slice (some ⟨g, 0, none⟩) n c]).alloc (.cells #[.float .f64 0, .float .f64 0, .float .f64 0, .float .f64 0, .int .u8 0] 107)
  have b1 := Blk.new (w.alloc (.cells #[.int .u8 0, .slice (some ⟨g, 0, none⟩) n c] 87)) 107 #[.float .f64 0, .float .f64 0, .float .f64 0, .float .f64 0, .int .u8 0]
  rw [World.size_alloc] at b1
  have hb : Below w.heap.size w ((w.alloc (.cells #[.int .u8 0, .slice (some ⟨g, 0, none⟩) n c] 87)).alloc (.cells #[.float .f64 0, .float .f64 0, .float .f64 0, .float .f64 0, .int .u8 0] 107)) := ((Below.refl _ _).alloc (Nat.le_refl _) _).alloc (by simp) _
  have k0 := (hb.cell (p := ⟨g, i * 2, none⟩) hgl).trans c0
  have k1 := (hb.cell (p := ⟨g, i * 2 + 1, none⟩) hgl).trans c1
  go_wp2_with fail
  generalize hVV : ((w.alloc (.cells #[.int .u8 0, .slice (some ⟨g, 0, none⟩) n c] 87)).alloc (.cells #[.float .f64 0, .float .f64 0, .float .f64 0, .float .f64 0, .int .u8 0] 107)) = V at *
  have HVV := Hd hVV
  clear hVV
  have hVl := b1.lt
  have s0 := b0.cell 0
  have s1 := b0.cell 1
  have r0 := b1.cell 0
  have r1 := b1.cell 1
  have r2 := b1.cell 2
  have r3 := b1.cell 3
  have r4 := b1.cell 4
  have g0 := b1.frozen 0
  have g1 := b1.frozen 1
  have g2 := b1.frozen 2
  have g3 := b1.frozen 3
  have g4 := b1.frozen 4
  simp at s0 s1 r0 r1 r2 r3 r4
  have hV0 : w.heap.size < V.heap.size := by omega
  have hVg : g < V.heap.size := by omega
  have A0 := (World.cell?_alloc_lt V (.cells #[.float .f64 0, .float .f64 0, .float .f64 0, .float .f64 0, .int .u8 0] 107) ⟨w.heap.size, 0, none⟩ hV0).trans s0
  have A1 := (World.cell?_alloc_lt V (.cells #[.float .f64 0, .float .f64 0, .float .f64 0, .float .f64 0, .int .u8 0] 107) ⟨w.heap.size, 1, none⟩ hV0).trans s1
  have B0 := (World.cell?_alloc_lt V (.cells #[.float .f64 0, .float .f64 0, .float .f64 0, .float .f64 0, .int .u8 0] 107) ⟨g, i * 2, none⟩ hVg).trans k0
  have B1 := (World.cell?_alloc_lt V (.cells #[.float .f64 0, .float .f64 0, .float .f64 0, .float .f64 0, .int .u8 0] 107) ⟨g, i * 2 + 1, none⟩ hVg).trans k1
  go_region
  have hVV := HVV.out
  clear HVV
  subst hVV
  clear hb b0 b1 A0 A1 B0 B1 s0 s1 r0 r1 r2 r3 r4 g0 g1 g2 g3 g4 hVl hV0 hVg
  go_wp2
  go_returns
  exact ⟨rfl, by go_grown⟩

set_option maxRecDepth 100000 in
theorem Get1 (g i : Nat) (n c : Nat) (ns : List Nat) (w : World) (h : Blk w g 73 (flV ns).toArray) (hn : ns.length = n) (hi : (i + 1) * 3 ≤ n) (hl : n ≤ 1000000000) :
    Calls Tryz.prog 125 #[.agg #[.int .u8 1, .slice (some ⟨g, 0, none⟩) n c], .int .i64 i] w fun e w' =>
      e = .returned (.agg #[.float .f64 (ns.getD (i * 3) 0), .float .f64 (ns.getD (i * 3 + 1) 0), .float .f64 (ns.getD (i * 3 + 2) 0), .float .f64 (0), .int .u8 1]) ∧ Below w.heap.size w w' := by
  have c0 := blk_fl h (i * 3) (by omega)
  have c1 := blk_fl h (i * 3 + 1) (by omega)
  have c2 := blk_fl h (i * 3 + 2) (by omega)
  generalize ns.getD (i * 3) 0 = x at *
  generalize ns.getD (i * 3 + 1) 0 = y at *
  generalize ns.getD (i * 3 + 2) 0 = z at *
  have hgl := h.lt
  have H := Hd h
  clear h hn
  have hw2 : wd 1 = 3 := by simp [wd]
  go_enter Tryz.func125, Tryz.ntmps125
  go_wp2_with fail
  refine (dimension_any 1 (by omega) (by omega) _).mono ?_
  rintro e w1 ⟨rfl, rfl⟩
  rw [hw2]
  have b0 := (Blk.new w 87 #[.int .u8 1, .slice (some ⟨g, 0, none⟩) n c]).alloc (.cells #[.float .f64 0, .float .f64 0, .float .f64 0, .float .f64 0, .int .u8 0] 107)
  have b1 := Blk.new (w.alloc (.cells #[.int .u8 1, .slice (some ⟨g, 0, none⟩) n c] 87)) 107 #[.float .f64 0, .float .f64 0, .float .f64 0, .float .f64 0, .int .u8 0]
  rw [World.size_alloc] at b1
  have hb : Below w.heap.size w ((w.alloc (.cells #[.int .u8 1, .slice (some ⟨g, 0, none⟩) n c] 87)).alloc (.cells #[.float .f64 0, .float .f64 0, .float .f64 0, .float .f64 0, .int .u8 0] 107)) := ((Below.refl _ _).alloc (Nat.le_refl _) _).alloc (by simp) _
  have k0 := (hb.cell (p := ⟨g, i * 3, none⟩) hgl).trans c0
  have k1 := (hb.cell (p := ⟨g, i * 3 + 1, none⟩) hgl).trans c1
  have k2 := (hb.cell (p := ⟨g, i * 3 + 2, none⟩) hgl).trans c2
  go_wp2_with fail
  generalize hVV : ((w.alloc (.cells #[.int .u8 1, .slice (some ⟨g, 0, none⟩) n c] 87)).alloc (.cells #[.float .f64 0, .float .f64 0, .float .f64 0, .float .f64 0, .int .u8 0] 107)) = V at *
  have HVV := Hd hVV
  clear hVV
  have hVl := b1.lt
  have s0 := b0.cell 0
  have s1 := b0.cell 1
  have r0 := b1.cell 0
  have r1 := b1.cell 1
  have r2 := b1.cell 2
  have r3 := b1.cell 3
  have r4 := b1.cell 4
  have g0 := b1.frozen 0
  have g1 := b1.frozen 1
  have g2 := b1.frozen 2
  have g3 := b1.frozen 3
  have g4 := b1.frozen 4
  simp at s0 s1 r0 r1 r2 r3 r4
  have hV0 : w.heap.size < V.heap.size := by omega
  have hVg : g < V.heap.size := by omega
  have A0 := (World.cell?_alloc_lt V (.cells #[.float .f64 0, .float .f64 0, .float .f64 0, .float .f64 0, .int .u8 0] 107) ⟨w.heap.size, 0, none⟩ hV0).trans s0
  have A1 := (World.cell?_alloc_lt V (.cells #[.float .f64 0, .float .f64 0, .float .f64 0, .float .f64 0, .int .u8 0] 107) ⟨w.heap.size, 1, none⟩ hV0).trans s1
  have B0 := (World.cell?_alloc_lt V (.cells #[.float .f64 0, .float .f64 0, .float .f64 0, .float .f64 0, .int .u8 0] 107) ⟨g, i * 3, none⟩ hVg).trans k0
  have B1 := (World.cell?_alloc_lt V (.cells #[.float .f64 0, .float .f64 0, .float .f64 0, .float .f64 0, .int .u8 0] 107) ⟨g, i * 3 + 1, none⟩ hVg).trans k1
  go_region
  have hVV := HVV.out
  clear HVV
  subst hVV
  clear hb b0 b1 A0 A1 B0 B1 s0 s1 r0 r1 r2 r3 r4 g0 g1 g2 g3 g4 hVl hV0 hVg
  have e2 : ∀ o : Obj, (((w.alloc (.cells #[.int .u8 1, .slice (some ⟨g, 0, none⟩) n c] 87)).alloc (.cells #[.float .f64 0, .float .f64 0, .float .f64 0, .float .f64 0, .int .u8 0] 107)).alloc o).drew.cell? ⟨g, i * 3 + 2, none⟩ = some (.float .f64 z) := fun o => (World.cell?_alloc_lt _ o ⟨g, i * 3 + 2, none⟩ (by simp; omega)).trans k2
  go_wp2
  go_returns
  exact ⟨rfl, by go_grown⟩

set_option maxRecDepth 100000 in
theorem Get2 (g i : Nat) (n c : Nat) (ns : List Nat) (w : World) (h : Blk w g 73 (flV ns).toArray) (hn : ns.length = n) (hi : (i + 1) * 3 ≤ n) (hl : n ≤ 1000000000) :
    Calls Tryz.prog 125 #[.agg #[.int .u8 2, .slice (some ⟨g, 0, none⟩) n c], .int .i64 i] w fun e w' =>
      e = .returned (.agg #[.float .f64 (ns.getD (i * 3) 0), .float .f64 (ns.getD (i * 3 + 1) 0), .float .f64 (0), .float .f64 (ns.getD (i * 3 + 2) 0), .int .u8 2]) ∧ Below w.heap.size w w' := by
  have c0 := blk_fl h (i * 3) (by omega)
  have c1 := blk_fl h (i * 3 + 1) (by omega)
  have c2 := blk_fl h (i * 3 + 2) (by omega)
  generalize ns.getD (i * 3) 0 = x at *
  generalize ns.getD (i * 3 + 1) 0 = y at *
  generalize ns.getD (i * 3 + 2) 0 = m at *
  have hgl := h.lt
  have H := Hd h
  clear h hn
  have hw2 : wd 2 = 3 := by simp [wd]
  go_enter Tryz.func125, Tryz.ntmps125
  go_wp2_with fail
  refine (dimension_any 2 (by omega) (by omega) _).mono ?_
  rintro e w1 ⟨rfl, rfl⟩
  rw [hw2]
  have b0 := (Blk.new w 87 #[.int .u8 2, .slice (some ⟨g, 0, none⟩) n c]).alloc (.cells #[.float .f64 0, .float .f64 0, .float .f64 0, .float .f64 0, .int .u8 0] 107)
  have b1 := Blk.new (w.alloc (.cells #[.int .u8 2, .slice (some ⟨g, 0, none⟩) n c] 87)) 107 #[.float .f64 0, .float .f64 0, .float .f64 0, .float .f64 0, .int .u8 0]
  rw [World.size_alloc] at b1
  have hb : Below w.heap.size w ((w.alloc (.cells #[.int .u8 2, .slice (some ⟨g, 0, none⟩) n c] 87)).alloc (.cells #[.float .f64 0, .float .f64 0, .float .f64 0, .float .f64 0, .int .u8 0] 107)) := ((Below.refl _ _).alloc (Nat.le_refl _) _).alloc (by simp) _
  have k0 := (hb.cell (p := ⟨g, i * 3, none⟩) hgl).trans c0
  have k1 := (hb.cell (p := ⟨g, i * 3 + 1, none⟩) hgl).trans c1
  have k2 := (hb.cell (p := ⟨g, i * 3 + 2, none⟩) hgl).trans c2
  go_wp2_with fail
  generalize hVV : ((w.alloc (.cells #[.int .u8 2, .slice (some ⟨g, 0, none⟩) n c] 87)).alloc (.cells #[.float .f64 0, .float .f64 0, .float .f64 0, .float .f64 0, .int .u8 0] 107)) = V at *
  have HVV := Hd hVV
  clear hVV
  have hVl := b1.lt
  have s0 := b0.cell 0
  have s1 := b0.cell 1
  have r0 := b1.cell 0
  have r1 := b1.cell 1
  have r2 := b1.cell 2
  have r3 := b1.cell 3
  have r4 := b1.cell 4
  have g0 := b1.frozen 0
  have g1 := b1.frozen 1
  have g2 := b1.frozen 2
  have g3 := b1.frozen 3
  have g4 := b1.frozen 4
  simp at s0 s1 r0 r1 r2 r3 r4
  have hV0 : w.heap.size < V.heap.size := by omega
  have hVg : g < V.heap.size := by omega
  have A0 := (World.cell?_alloc_lt V (.cells #[.float .f64 0, .float .f64 0, .float .f64 0, .float .f64 0, .int .u8 0] 107) ⟨w.heap.size, 0, none⟩ hV0).trans s0
  have A1 := (World.cell?_alloc_lt V (.cells #[.float .f64 0, .float .f64 0, .float .f64 0, .float .f64 0, .int .u8 0] 107) ⟨w.heap.size, 1, none⟩ hV0).trans s1
  have B0 := (World.cell?_alloc_lt V (.cells #[.float .f64 0, .float .f64 0, .float .f64 0, .float .f64 0, .int .u8 0] 107) ⟨g, i * 3, none⟩ hVg).trans k0
  have B1 := (World.cell?_alloc_lt V (.cells #[.float .f64 0, .float .f64 0, .float .f64 0, .float .f64 0, .int .u8 0] 107) ⟨g, i * 3 + 1, none⟩ hVg).trans k1
  go_region
  have hVV := HVV.out
  clear HVV
  subst hVV
  clear hb b0 b1 A0 A1 B0 B1 s0 s1 r0 r1 r2 r3 r4 g0 g1 g2 g3 g4 hVl hV0 hVg
  have e2 : ∀ o : Obj, (((w.alloc (.cells #[.int .u8 2, .slice (some ⟨g, 0, none⟩) n c] 87)).alloc (.cells #[.float .f64 0, .float .f64 0, .float .f64 0, .float .f64 0, .int .u8 0] 107)).alloc o).drew.cell? ⟨g, i * 3 + 2, none⟩ = some (.float .f64 m) := fun o => (World.cell?_alloc_lt _ o ⟨g, i * 3 + 2, none⟩ (by simp; omega)).trans k2
  go_wp2
  go_returns
  exact ⟨rfl, by go_grown⟩

set_option maxRecDepth 100000 in
theorem Get3 (g i : Nat) (n c : Nat) (ns : List Nat) (w : World) (h : Blk w g 73 (flV ns).toArray) (hn : ns.length = n) (hi : (i + 1) * 4 ≤ n) (hl : n ≤ 1000000000) :
    Calls Tryz.prog 125 #[.agg #[.int .u8 3, .slice (some ⟨g, 0, none⟩) n c], .int .i64 i] w fun e w' =>
      e = .returned (.agg #[.float .f64 (ns.getD (i * 4) 0), .float .f64 (ns.getD (i * 4 + 1) 0), .float .f64 (ns.getD (i * 4 + 2) 0), .float .f64 (ns.getD (i * 4 + 3) 0), .int .u8 3]) ∧ Below w.heap.size w w' := by
  have c0 := blk_fl h (i * 4) (by omega)
  have c1 := blk_fl h (i * 4 + 1) (by omega)
  have c2 := blk_fl h (i * 4 + 2) (by omega)
  have c3 := blk_fl h (i * 4 + 3) (by omega)
  generalize ns.getD (i * 4) 0 = x at *
  generalize ns.getD (i * 4 + 1) 0 = y at *
  generalize ns.getD (i * 4 + 2) 0 = z at *
  generalize ns.getD (i * 4 + 3) 0 = m at *
  have hgl := h.lt
  have H := Hd h
  clear h hn
  have hw2 : wd 3 = 4 := by simp [wd]
  go_enter Tryz.func125, Tryz.ntmps125
  go_wp2_with fail
  refine (dimension_any 3 (by omega) (by omega) _).mono ?_
  rintro e w1 ⟨rfl, rfl⟩
  rw [hw2]
  have b0 := (Blk.new w 87 #[.int .u8 3, .slice (some ⟨g, 0, none⟩) n c]).alloc (.cells #[.float .f64 0, .float .f64 0, .float .f64 0, .float .f64 0, .int .u8 0] 107)
  have b1 := Blk.new (w.alloc (.cells #[.int .u8 3, .slice (some ⟨g, 0, none⟩) n c] 87)) 107 #[.float .f64 0, .float .f64 0, .float .f64 0, .float .f64 0, .int .u8 0]
  rw [World.size_alloc] at b1
  have hb : Below w.heap.size w ((w.alloc (.cells #[.int .u8 3, .slice (some ⟨g, 0, none⟩) n c] 87)).alloc (.cells #[.float .f64 0, .float .f64 0, .float .f64 0, .float .f64 0, .int .u8 0] 107)) := ((Below.refl _ _).alloc (Nat.le_refl _) _).alloc (by simp) _
  have k0 := (hb.cell (p := ⟨g, i * 4, none⟩) hgl).trans c0
  have k1 := (hb.cell (p := ⟨g, i * 4 + 1, none⟩) hgl).trans c1
  have k2 := (hb.cell (p := ⟨g, i * 4 + 2, none⟩) hgl).trans c2
  have k3 := (hb.cell (p := ⟨g, i * 4 + 3, none⟩) hgl).trans c3
  go_wp2_with fail
  generalize hVV : ((w.alloc (.cells #[.int .u8 3, .slice (some ⟨g, 0, none⟩) n c] 87)).alloc (.cells #[.float .f64 0, .float .f64 0, .float .f64 0, .float .f64 0, .int .u8 0] 107)) = V at *
  have HVV := Hd hVV
  clear hVV
  have hVl := b1.lt
  have s0 := b0.cell 0
  have s1 := b0.cell 1
  have r0 := b1.cell 0
  have r1 := b1.cell 1
  have r2 := b1.cell 2
  have r3 := b1.cell 3
  have r4 := b1.cell 4
  have g0 := b1.frozen 0
  have g1 := b1.frozen 1
  have g2 := b1.frozen 2
  have g3 := b1.frozen 3
  have g4 := b1.frozen 4
  simp at s0 s1 r0 r1 r2 r3 r4
  have hV0 : w.heap.size < V.heap.size := by omega
  have hVg : g < V.heap.size := by omega
  have A0 := (World.cell?_alloc_lt V (.cells #[.float .f64 0, .float .f64 0, .float .f64 0, .float .f64 0, .int .u8 0] 107) ⟨w.heap.size, 0, none⟩ hV0).trans s0
  have A1 := (World.cell?_alloc_lt V (.cells #[.float .f64 0, .float .f64 0, .float .f64 0, .float .f64 0, .int .u8 0] 107) ⟨w.heap.size, 1, none⟩ hV0).trans s1
  have B0 := (World.cell?_alloc_lt V (.cells #[.float .f64 0, .float .f64 0, .float .f64 0, .float .f64 0, .int .u8 0] 107) ⟨g, i * 4, none⟩ hVg).trans k0
  have B1 := (World.cell?_alloc_lt V (.cells #[.float .f64 0, .float .f64 0, .float .f64 0, .float .f64 0, .int .u8 0] 107) ⟨g, i * 4 + 1, none⟩ hVg).trans k1
  go_region
  have hVV := HVV.out
  clear HVV
  subst hVV
  clear hb b0 b1 A0 A1 B0 B1 s0 s1 r0 r1 r2 r3 r4 g0 g1 g2 g3 g4 hVl hV0 hVg
  have e2 : ∀ o : Obj, (((w.alloc (.cells #[.int .u8 3, .slice (some ⟨g, 0, none⟩) n c] 87)).alloc (.cells #[.float .f64 0, .float .f64 0, .float .f64 0, .float .f64 0, .int .u8 0] 107)).alloc o).drew.cell? ⟨g, i * 4 + 2, none⟩ = some (.float .f64 z) := fun o => (World.cell?_alloc_lt _ o ⟨g, i * 4 + 2, none⟩ (by simp; omega)).trans k2
  have e3 : ∀ o : Obj, (((w.alloc (.cells #[.int .u8 3, .slice (some ⟨g, 0, none⟩) n c] 87)).alloc (.cells #[.float .f64 0, .float .f64 0, .float .f64 0, .float .f64 0, .int .u8 0] 107)).alloc o).drew.cell? ⟨g, i * 4 + 3, none⟩ = some (.float .f64 m) := fun o => (World.cell?_alloc_lt _ o ⟨g, i * 4 + 3, none⟩ (by simp; omega)).trans k3
  go_wp2
  go_returns
  exact ⟨rfl, by go_grown⟩

theorem Get_any (q : Int) (q0 : 0 ≤ q) (q1 : q ≤ 3) (g i : Nat) (n c : Nat) (ns : List Nat) (w : World) (h : Blk w g 73 (flV ns).toArray) (hn : ns.length = n) (hi : (i + 1) * wd q ≤ n) (hl : n ≤ 1000000000) :
    Calls Tryz.prog 125 #[.agg #[.int .u8 q, .slice (some ⟨g, 0, none⟩) n c], .int .i64 i] w fun e w' =>
      e = .returned (.agg #[.float .f64 (ptN q ns i).1, .float .f64 (ptN q ns i).2.1, .float .f64 (ptN q ns i).2.2.1, .float .f64 (ptN q ns i).2.2.2, .int .u8 q]) ∧ Below w.heap.size w w' := by
  rcases wd_cases q q0 q1 with ⟨rfl, h0⟩ | ⟨rfl, h0⟩ | ⟨rfl, h0⟩ | ⟨rfl, h0⟩ <;> rw [h0] at hi
  · simpa [ptN, h0] using Get0 g i n c ns w h hn hi hl
  · simpa [ptN, h0] using Get1 g i n c ns w h hn hi hl
  · simpa [ptN, h0] using Get2 g i n c ns w h hn hi hl
  · simpa [ptN, h0] using Get3 g i n c ns w h hn hi hl

end Go.Proofs.YtofdccmmagcamaaGreatDoor

/- The point made of plain data. -/
set_option maxHeartbeats 8000000
set_option linter.unusedSimpArgs false
set_option linter.unusedVariables false
namespace Go.Proofs.YtofdccmmagcamaaGreatDoor
open Go.RowKit

attribute [local go_sem] run_store_float

set_option maxRecDepth 100000 in
theorem NewEmptyPoint_any (q : Int) (w : World) : Calls Tryz.prog 123 #[.int .u8 q] w fun e w' =>
    e = .returned (.agg #[.float .f64 0, .float .f64 0, .float .f64 0, .float .f64 0, .int .u8 q, .bool false]) ∧ Below w.heap.size w w' := by
  go_enter Tryz.func123, Tryz.ntmps123
  go_wp2
  go_returns
  exact ⟨rfl, by go_grown⟩

set_option maxRecDepth 100000 in
theorem NewPoint_any (x y z m : Nat) (q : Int) (w : World) : Calls Tryz.prog 124 #[.agg #[.float .f64 x, .float .f64 y, .float .f64 z, .float .f64 m, .int .u8 q]] w fun e w' =>
    e = .returned (.agg #[.float .f64 x, .float .f64 y, .float .f64 z, .float .f64 m, .int .u8 q, .bool true]) ∧ Below w.heap.size w w' := by
  go_enter Tryz.func124, Tryz.ntmps124
  go_wp2
  go_returns
  exact ⟨rfl, by go_grown⟩

theorem six_cells {w : World} {g T : Nat} {a0 a1 a2 a3 a4 a5 : Value} (h : Blk w g T #[a0, a1, a2, a3, a4, a5]) (b0 b1 b2 b3 b4 b5 : Value) :
    (w.setCell ⟨g, 0, none⟩ b0).cell? ⟨g, 0, none⟩ = some b0 ∧
    ((w.setCell ⟨g, 0, none⟩ b0).setCell ⟨g, 1, none⟩ b1).cell? ⟨g, 1, none⟩ = some b1 ∧
    (((w.setCell ⟨g, 0, none⟩ b0).setCell ⟨g, 1, none⟩ b1).setCell ⟨g, 2, none⟩ b2).cell? ⟨g, 2, none⟩ = some b2 ∧
    ((((w.setCell ⟨g, 0, none⟩ b0).setCell ⟨g, 1, none⟩ b1).setCell ⟨g, 2, none⟩ b2).setCell ⟨g, 3, none⟩ b3).cell? ⟨g, 3, none⟩ = some b3 ∧
    (((((w.setCell ⟨g, 0, none⟩ b0).setCell ⟨g, 1, none⟩ b1).setCell ⟨g, 2, none⟩ b2).setCell ⟨g, 3, none⟩ b3).setCell ⟨g, 4, none⟩ b4).cell? ⟨g, 4, none⟩ = some b4 ∧
    ((((((w.setCell ⟨g, 0, none⟩ b0).setCell ⟨g, 1, none⟩ b1).setCell ⟨g, 2, none⟩ b2).setCell ⟨g, 3, none⟩ b3).setCell ⟨g, 4, none⟩ b4).setCell ⟨g, 5, none⟩ b5).cell? ⟨g, 5, none⟩ = some b5 := by
  have k0 := h.set_ 0 b0
  have k1 := k0.set_ 1 b1
  have k2 := k1.set_ 2 b2
  have k3 := k2.set_ 3 b3
  have k4 := k3.set_ 4 b4
  have k5 := k4.set_ 5 b5
  refine ⟨?_, ?_, ?_, ?_, ?_, ?_⟩
  · simpa using k0.cell 0
  · simpa using k1.cell 1
  · simpa using k2.cell 2
  · simpa using k3.cell 3
  · simpa using k4.cell 4
  · simpa using k5.cell 5

end Go.Proofs.YtofdccmmagcamaaGreatDoor

/- The reference's GeoJSON of a place: Width, a list in brackets, a place. -/
set_option maxHeartbeats 8000000
set_option linter.unusedSimpArgs false
set_option linter.unusedVariables false
namespace Go.Proofs.YtofdccmmagcamaaGreatDoor
open Go.RowKit

set_option maxRecDepth 100000 in
theorem Width_any (q : Int) (q0 : 0 ≤ q) (q1 : q ≤ 3) (w : World) : Calls Tryz.prog 34 #[.int .i64 q] w fun e w' => e = .returned (.int .i64 (wd q)) ∧ w' = w := by
  have b0 : bits .and .i64 0 1 = 0 := by rw [i64_and1']; rfl
  have b1 : bits .and .i64 1 1 = 1 := by rw [i64_and1']; rfl
  have b2 : bits .and .i64 2 1 = 0 := by rw [i64_and1']; rfl
  have b3 : bits .and .i64 3 1 = 1 := by rw [i64_and1']; rfl
  rcases wd_cases q q0 q1 with ⟨rfl, h⟩ | ⟨rfl, h⟩ | ⟨rfl, h⟩ | ⟨rfl, h⟩ <;> rw [h] <;>
  · go_enter Tryz.func34, Tryz.ntmps34
    go_wp2
    go_ret
    exact ⟨rfl, rfl⟩

end Go.Proofs.YtofdccmmagcamaaGreatDoor
