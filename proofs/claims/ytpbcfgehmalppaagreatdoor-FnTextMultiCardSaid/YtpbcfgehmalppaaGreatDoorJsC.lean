/- A place out of a sequence: Sequence.Get, under each type of coordinates (printed by gen_get.py). -/
import Derived.Test.YtpbcfgehmalppaaGreatDoorJsB
namespace Go.Proofs.YtpbcfgehmalppaaGreatDoor
open Go.RowKit

attribute [local go_sem] run_store_float

set_option maxHeartbeats 4000000 in
set_option maxRecDepth 100000 in
theorem Get0 (g i : Nat) (n c : Nat) (ns : List Nat) (w : World) (h : Blk w g 45 (flV ns).toArray) (hn : ns.length = n) (hi : (i + 1) * 2 ≤ n) (hl : n ≤ 1000000000) :
    Calls Tryz.prog 56 #[.agg #[.int .u8 0, .slice (some ⟨g, 0, none⟩) n c], .int .i64 i] w fun e w' =>
      e = .returned (.agg #[.float .f64 (ns.getD (i * 2) 0), .float .f64 (ns.getD (i * 2 + 1) 0), .float .f64 (0), .float .f64 (0), .int .u8 0]) ∧ Below w.heap.size w w' := by
  have c0 := blk_fl h (i * 2) (by omega)
  have c1 := blk_fl h (i * 2 + 1) (by omega)
  generalize ns.getD (i * 2) 0 = x at *
  generalize ns.getD (i * 2 + 1) 0 = y at *
  have hgl := h.lt
  have H := Lib.hid h
  clear h hn
  have hw2 : wd 0 = 2 := by simp [wd]
  go_enter Tryz.func56, Tryz.ntmps56
  go_wp2_with fail
  refine (dimension_any 0 (by omega) (by omega) _).mono ?_
  rintro e w1 ⟨rfl, rfl⟩
  rw [hw2]
  have b0 := (Blk.new w 78 #[.int .u8 0, .slice (some ⟨g, 0, none⟩) n c]).alloc (.cells #[.float .f64 0, .float .f64 0, .float .f64 0, .float .f64 0, .int .u8 0] 50)
  have b1 := Blk.new (w.alloc (.cells #[.int .u8 0, .slice (some ⟨g, 0, none⟩) n c] 78)) 50 #[.float .f64 0, .float .f64 0, .float .f64 0, .float .f64 0, .int .u8 0]
  rw [World.size_alloc] at b1
  have hb : Below w.heap.size w ((w.alloc (.cells #[.int .u8 0, .slice (some ⟨g, 0, none⟩) n c] 78)).alloc (.cells #[.float .f64 0, .float .f64 0, .float .f64 0, .float .f64 0, .int .u8 0] 50)) := ((Below.refl _ _).alloc (Nat.le_refl _) _).alloc (by simp) _
  have k0 := (hb.cell (p := ⟨g, i * 2, none⟩) hgl).trans c0
  have k1 := (hb.cell (p := ⟨g, i * 2 + 1, none⟩) hgl).trans c1
  go_wp2_with fail
  generalize hVV : ((w.alloc (.cells #[.int .u8 0, .slice (some ⟨g, 0, none⟩) n c] 78)).alloc (.cells #[.float .f64 0, .float .f64 0, .float .f64 0, .float .f64 0, .int .u8 0] 50)) = V at *
  have HVV := Lib.hid hVV
  clear hVV
  have hVl := b1.lt
  have s0 := b0.cell 0
  have s1 := b0.cell 1
  have r0 := b1.cell 0
  have r1 := b1.cell 1
  have r2 := b1.cell 2
  have r3 := b1.cell 3
  have r4 := b1.cell 4
  have g0 := b1.frozen 0
  have g1 := b1.frozen 1
  have g2 := b1.frozen 2
  have g3 := b1.frozen 3
  have g4 := b1.frozen 4
  simp at s0 s1 r0 r1 r2 r3 r4
  have hV0 : w.heap.size < V.heap.size := by omega
  have hVg : g < V.heap.size := by omega
  have A0 := (World.cell?_alloc_lt V (.cells #[.float .f64 0, .float .f64 0, .float .f64 0, .float .f64 0, .int .u8 0] 50) ⟨w.heap.size, 0, none⟩ hV0).trans s0
  have A1 := (World.cell?_alloc_lt V (.cells #[.float .f64 0, .float .f64 0, .float .f64 0, .float .f64 0, .int .u8 0] 50) ⟨w.heap.size, 1, none⟩ hV0).trans s1
  have B0 := (World.cell?_alloc_lt V (.cells #[.float .f64 0, .float .f64 0, .float .f64 0, .float .f64 0, .int .u8 0] 50) ⟨g, i * 2, none⟩ hVg).trans k0
  have B1 := (World.cell?_alloc_lt V (.cells #[.float .f64 0, .float .f64 0, .float .f64 0, .float .f64 0, .int .u8 0] 50) ⟨g, i * 2 + 1, none⟩ hVg).trans k1
  go_region
  have hVV := HVV.out
  clear HVV
  subst hVV
  clear hb b0 b1 A0 A1 B0 B1 s0 s1 r0 r1 r2 r3 r4 g0 g1 g2 g3 g4 hVl hV0 hVg
  go_wp2
  go_returns
  exact ⟨rfl, by go_grown⟩

set_option maxHeartbeats 4000000 in
set_option maxRecDepth 100000 in
theorem Get1 (g i : Nat) (n c : Nat) (ns : List Nat) (w : World) (h : Blk w g 45 (flV ns).toArray) (hn : ns.length = n) (hi : (i + 1) * 3 ≤ n) (hl : n ≤ 1000000000) :
    Calls Tryz.prog 56 #[.agg #[.int .u8 1, .slice (some ⟨g, 0, none⟩) n c], .int .i64 i] w fun e w' =>
      e = .returned (.agg #[.float .f64 (ns.getD (i * 3) 0), .float .f64 (ns.getD (i * 3 + 1) 0), .float .f64 (ns.getD (i * 3 + 2) 0), .float .f64 (0), .int .u8 1]) ∧ Below w.heap.size w w' := by
  have c0 := blk_fl h (i * 3) (by omega)
  have c1 := blk_fl h (i * 3 + 1) (by omega)
  have c2 := blk_fl h (i * 3 + 2) (by omega)
  generalize ns.getD (i * 3) 0 = x at *
  generalize ns.getD (i * 3 + 1) 0 = y at *
  generalize ns.getD (i * 3 + 2) 0 = z at *
  have hgl := h.lt
  have H := Lib.hid h
  clear h hn
  have hw2 : wd 1 = 3 := by simp [wd]
  go_enter Tryz.func56, Tryz.ntmps56
  go_wp2_with fail
  refine (dimension_any 1 (by omega) (by omega) _).mono ?_
  rintro e w1 ⟨rfl, rfl⟩
  rw [hw2]
  have b0 := (Blk.new w 78 #[.int .u8 1, .slice (some ⟨g, 0, none⟩) n c]).alloc (.cells #[.float .f64 0, .float .f64 0, .float .f64 0, .float .f64 0, .int .u8 0] 50)
  have b1 := Blk.new (w.alloc (.cells #[.int .u8 1, .slice (some ⟨g, 0, none⟩) n c] 78)) 50 #[.float .f64 0, .float .f64 0, .float .f64 0, .float .f64 0, .int .u8 0]
  rw [World.size_alloc] at b1
  have hb : Below w.heap.size w ((w.alloc (.cells #[.int .u8 1, .slice (some ⟨g, 0, none⟩) n c] 78)).alloc (.cells #[.float .f64 0, .float .f64 0, .float .f64 0, .float .f64 0, .int .u8 0] 50)) := ((Below.refl _ _).alloc (Nat.le_refl _) _).alloc (by simp) _
  have k0 := (hb.cell (p := ⟨g, i * 3, none⟩) hgl).trans c0
  have k1 := (hb.cell (p := ⟨g, i * 3 + 1, none⟩) hgl).trans c1
  have k2 := (hb.cell (p := ⟨g, i * 3 + 2, none⟩) hgl).trans c2
  go_wp2_with fail
  generalize hVV : ((w.alloc (.cells #[.int .u8 1, .slice (some ⟨g, 0, none⟩) n c] 78)).alloc (.cells #[.float .f64 0, .float .f64 0, .float .f64 0, .float .f64 0, .int .u8 0] 50)) = V at *
  have HVV := Lib.hid hVV
  clear hVV
  have hVl := b1.lt
  have s0 := b0.cell 0
  have s1 := b0.cell 1
  have r0 := b1.cell 0
  have r1 := b1.cell 1
  have r2 := b1.cell 2
  have r3 := b1.cell 3
  have r4 := b1.cell 4
  have g0 := b1.frozen 0
  have g1 := b1.frozen 1
  have g2 := b1.frozen 2
  have g3 := b1.frozen 3
  have g4 := b1.frozen 4
  simp at s0 s1 r0 r1 r2 r3 r4
  have hV0 : w.heap.size < V.heap.size := by omega
  have hVg : g < V.heap.size := by omega
  have A0 := (World.cell?_alloc_lt V (.cells #[.float .f64 0, .float .f64 0, .float .f64 0, .float .f64 0, .int .u8 0] 50) ⟨w.heap.size, 0, none⟩ hV0).trans s0
  have A1 := (World.cell?_alloc_lt V (.cells #[.float .f64 0, .float .f64 0, .float .f64 0, .float .f64 0, .int .u8 0] 50) ⟨w.heap.size, 1, none⟩ hV0).trans s1
  have B0 := (World.cell?_alloc_lt V (.cells #[.float .f64 0, .float .f64 0, .float .f64 0, .float .f64 0, .int .u8 0] 50) ⟨g, i * 3, none⟩ hVg).trans k0
  have B1 := (World.cell?_alloc_lt V (.cells #[.float .f64 0, .float .f64 0, .float .f64 0, .float .f64 0, .int .u8 0] 50) ⟨g, i * 3 + 1, none⟩ hVg).trans k1
  go_region
  have hVV := HVV.out
  clear HVV
  subst hVV
  clear hb b0 b1 A0 A1 B0 B1 s0 s1 r0 r1 r2 r3 r4 g0 g1 g2 g3 g4 hVl hV0 hVg
  have e2 : ∀ o : Obj, (((w.alloc (.cells #[.int .u8 1, .slice (some ⟨g, 0, none⟩) n c] 78)).alloc (.cells #[.float .f64 0, .float .f64 0, .float .f64 0, .float .f64 0, .int .u8 0] 50)).alloc o).drew.cell? ⟨g, i * 3 + 2, none⟩ = some (.float .f64 z) := fun o => (World.cell?_alloc_lt _ o ⟨g, i * 3 + 2, none⟩ (by simp; omega)).trans k2
  go_wp2
  go_returns
  exact ⟨rfl, by go_grown⟩

set_option maxHeartbeats 4000000 in
set_option maxRecDepth 100000 in
theorem Get2 (g i : Nat) (n c : Nat) (ns : List Nat) (w : World) (h : Blk w g 45 (flV ns).toArray) (hn : ns.length = n) (hi : (i + 1) * 3 ≤ n) (hl : n ≤ 1000000000) :
    Calls Tryz.prog 56 #[.agg #[.int .u8 2, .slice (some ⟨g, 0, none⟩) n c], .int .i64 i] w fun e w' =>
      e = .returned (.agg #[.float .f64 (ns.getD (i * 3) 0), .float .f64 (ns.getD (i * 3 + 1) 0), .float .f64 (0), .float .f64 (ns.getD (i * 3 + 2) 0), .int .u8 2]) ∧ Below w.heap.size w w' := by
  have c0 := blk_fl h (i * 3) (by omega)
  have c1 := blk_fl h (i * 3 + 1) (by omega)
  have c2 := blk_fl h (i * 3 + 2) (by omega)
  generalize ns.getD (i * 3) 0 = x at *
  generalize ns.getD (i * 3 + 1) 0 = y at *
  generalize ns.getD (i * 3 + 2) 0 = m at *
  have hgl := h.lt
  have H := Lib.hid h
  clear h hn
  have hw2 : wd 2 = 3 := by simp [wd]
  go_enter Tryz.func56, Tryz.ntmps56
  go_wp2_with fail
  refine (dimension_any 2 (by omega) (by omega) _).mono ?_
  rintro e w1 ⟨rfl, rfl⟩
  rw [hw2]
  have b0 := (Blk.new w 78 #[.int .u8 2, .slice (some ⟨g, 0, none⟩) n c]).alloc (.cells #[.float .f64 0, .float .f64 0, .float .f64 0, .float .f64 0, .int .u8 0] 50)
  have b1 := Blk.new (w.alloc (.cells #[.int .u8 2, .slice (some ⟨g, 0, none⟩) n c] 78)) 50 #[.float .f64 0, .float .f64 0, .float .f64 0, .float .f64 0, .int .u8 0]
  rw [World.size_alloc] at b1
  have hb : Below w.heap.size w ((w.alloc (.cells #[.int .u8 2, .slice (some ⟨g, 0, none⟩) n c] 78)).alloc (.cells #[.float .f64 0, .float .f64 0, .float .f64 0, .float .f64 0, .int .u8 0] 50)) := ((Below.refl _ _).alloc (Nat.le_refl _) _).alloc (by simp) _
  have k0 := (hb.cell (p := ⟨g, i * 3, none⟩) hgl).trans c0
  have k1 := (hb.cell (p := ⟨g, i * 3 + 1, none⟩) hgl).trans c1
  have k2 := (hb.cell (p := ⟨g, i * 3 + 2, none⟩) hgl).trans c2
  go_wp2_with fail
  generalize hVV : ((w.alloc (.cells #[.int .u8 2, .slice (some ⟨g, 0, none⟩) n c] 78)).alloc (.cells #[.float .f64 0, .float .f64 0, .float .f64 0, .float .f64 0, .int .u8 0] 50)) = V at *
  have HVV := Lib.hid hVV
  clear hVV
  have hVl := b1.lt
  have s0 := b0.cell 0
  have s1 := b0.cell 1
  have r0 := b1.cell 0
  have r1 := b1.cell 1
  have r2 := b1.cell 2
  have r3 := b1.cell 3
  have r4 := b1.cell 4
  have g0 := b1.frozen 0
  have g1 := b1.frozen 1
  have g2 := b1.frozen 2
  have g3 := b1.frozen 3
  have g4 := b1.frozen 4
  simp at s0 s1 r0 r1 r2 r3 r4
  have hV0 : w.heap.size < V.heap.size := by omega
  have hVg : g < V.heap.size := by omega
  have A0 := (World.cell?_alloc_lt V (.cells #[.float .f64 0, .float .f64 0, .float .f64 0, .float .f64 0, .int .u8 0] 50) ⟨w.heap.size, 0, none⟩ hV0).trans s0
  have A1 := (World.cell?_alloc_lt V (.cells #[.float .f64 0, .float .f64 0, .float .f64 0, .float .f64 0, .int .u8 0] 50) ⟨w.heap.size, 1, none⟩ hV0).trans s1
  have B0 := (World.cell?_alloc_lt V (.cells #[.float .f64 0, .float .f64 0, .float .f64 0, .float .f64 0, .int .u8 0] 50) ⟨g, i * 3, none⟩ hVg).trans k0
  have B1 := (World.cell?_alloc_lt V (.cells #[.float .f64 0, .float .f64 0, .float .f64 0, .float .f64 0, .int .u8 0] 50) ⟨g, i * 3 + 1, none⟩ hVg).trans k1
  go_region
  have hVV := HVV.out
  clear HVV
  subst hVV
  clear hb b0 b1 A0 A1 B0 B1 s0 s1 r0 r1 r2 r3 r4 g0 g1 g2 g3 g4 hVl hV0 hVg
  have e2 : ∀ o : Obj, (((w.alloc (.cells #[.int .u8 2, .slice (some ⟨g, 0, none⟩) n c] 78)).alloc (.cells #[.float .f64 0, .float .f64 0, .float .f64 0, .float .f64 0, .int .u8 0] 50)).alloc o).drew.cell? ⟨g, i * 3 + 2, none⟩ = some (.float .f64 m) := fun o => (World.cell?_alloc_lt _ o ⟨g, i * 3 + 2, none⟩ (by simp; omega)).trans k2
  go_wp2
  go_returns
  exact ⟨rfl, by go_grown⟩

set_option maxHeartbeats 4000000 in
set_option maxRecDepth 100000 in
theorem Get3 (g i : Nat) (n c : Nat) (ns : List Nat) (w : World) (h : Blk w g 45 (flV ns).toArray) (hn : ns.length = n) (hi : (i + 1) * 4 ≤ n) (hl : n ≤ 1000000000) :
    Calls Tryz.prog 56 #[.agg #[.int .u8 3, .slice (some ⟨g, 0, none⟩) n c], .int .i64 i] w fun e w' =>
      e = .returned (.agg #[.float .f64 (ns.getD (i * 4) 0), .float .f64 (ns.getD (i * 4 + 1) 0), .float .f64 (ns.getD (i * 4 + 2) 0), .float .f64 (ns.getD (i * 4 + 3) 0), .int .u8 3]) ∧ Below w.heap.size w w' := by
  have c0 := blk_fl h (i * 4) (by omega)
  have c1 := blk_fl h (i * 4 + 1) (by omega)
  have c2 := blk_fl h (i * 4 + 2) (by omega)
  have c3 := blk_fl h (i * 4 + 3) (by omega)
  generalize ns.getD (i * 4) 0 = x at *
  generalize ns.getD (i * 4 + 1) 0 = y at *
  generalize ns.getD (i * 4 + 2) 0 = z at *
  generalize ns.getD (i * 4 + 3) 0 = m at *
  have hgl := h.lt
  have H := Lib.hid h
  clear h hn
  have hw2 : wd 3 = 4 := by simp [wd]
  go_enter Tryz.func56, Tryz.ntmps56
  go_wp2_with fail
  refine (dimension_any 3 (by omega) (by omega) _).mono ?_
  rintro e w1 ⟨rfl, rfl⟩
  rw [hw2]
  have b0 := (Blk.new w 78 #[.int .u8 3, .slice (some ⟨g, 0, none⟩) n c]).alloc (.cells #[.float .f64 0, .float .f64 0, .float .f64 0, .float .f64 0, .int .u8 0] 50)
  have b1 := Blk.new (w.alloc (.cells #[.int .u8 3, .slice (some ⟨g, 0, none⟩) n c] 78)) 50 #[.float .f64 0, .float .f64 0, .float .f64 0, .float .f64 0, .int .u8 0]
  rw [World.size_alloc] at b1
  have hb : Below w.heap.size w ((w.alloc (.cells #[.int .u8 3, .slice (some ⟨g, 0, none⟩) n c] 78)).alloc (.cells #[.float .f64 0, .float .f64 0, .float .f64 0, .float .f64 0, .int .u8 0] 50)) := ((Below.refl _ _).alloc (Nat.le_refl _) _).alloc (by simp) _
  have k0 := (hb.cell (p := ⟨g, i * 4, none⟩) hgl).trans c0
  have k1 := (hb.cell (p := ⟨g, i * 4 + 1, none⟩) hgl).trans c1
  have k2 := (hb.cell (p := ⟨g, i * 4 + 2, none⟩) hgl).trans c2
  have k3 := (hb.cell (p := ⟨g, i * 4 + 3, none⟩) hgl).trans c3
  go_wp2_with fail
  generalize hVV : ((w.alloc (.cells #[.int .u8 3, .slice (some ⟨g, 0, none⟩) n c] 78)).alloc (.cells #[.float .f64 0, .float .f64 0, .float .f64 0, .float .f64 0, .int .u8 0] 50)) = V at *
  have HVV := Lib.hid hVV
  clear hVV
  have hVl := b1.lt
  have s0 := b0.cell 0
  have s1 := b0.cell 1
  have r0 := b1.cell 0
  have r1 := b1.cell 1
  have r2 := b1.cell 2
  have r3 := b1.cell 3
  have r4 := b1.cell 4
  have g0 := b1.frozen 0
  have g1 := b1.frozen 1
  have g2 := b1.frozen 2
  have g3 := b1.frozen 3
  have g4 := b1.frozen 4
  simp at s0 s1 r0 r1 r2 r3 r4
  have hV0 : w.heap.size < V.heap.size := by omega
  have hVg : g < V.heap.size := by omega
  have A0 := (World.cell?_alloc_lt V (.cells #[.float .f64 0, .float .f64 0, .float .f64 0, .float .f64 0, .int .u8 0] 50) ⟨w.heap.size, 0, none⟩ hV0).trans s0
  have A1 := (World.cell?_alloc_lt V (.cells #[.float .f64 0, .float .f64 0, .float .f64 0, .float .f64 0, .int .u8 0] 50) ⟨w.heap.size, 1, none⟩ hV0).trans s1
  have B0 := (World.cell?_alloc_lt V (.cells #[.float .f64 0, .float .f64 0, .float .f64 0, .float .f64 0, .int .u8 0] 50) ⟨g, i * 4, none⟩ hVg).trans k0
  have B1 := (World.cell?_alloc_lt V (.cells #[.float .f64 0, .float .f64 0, .float .f64 0, .float .f64 0, .int .u8 0] 50) ⟨g, i * 4 + 1, none⟩ hVg).trans k1
  go_region
  have hVV := HVV.out
  clear HVV
  subst hVV
  clear hb b0 b1 A0 A1 B0 B1 s0 s1 r0 r1 r2 r3 r4 g0 g1 g2 g3 g4 hVl hV0 hVg
  have e2 : ∀ o : Obj, (((w.alloc (.cells #[.int .u8 3, .slice (some ⟨g, 0, none⟩) n c] 78)).alloc (.cells #[.float .f64 0, .float .f64 0, .float .f64 0, .float .f64 0, .int .u8 0] 50)).alloc o).drew.cell? ⟨g, i * 4 + 2, none⟩ = some (.float .f64 z) := fun o => (World.cell?_alloc_lt _ o ⟨g, i * 4 + 2, none⟩ (by simp; omega)).trans k2
  have e3 : ∀ o : Obj, (((w.alloc (.cells #[.int .u8 3, .slice (some ⟨g, 0, none⟩) n c] 78)).alloc (.cells #[.float .f64 0, .float .f64 0, .float .f64 0, .float .f64 0, .int .u8 0] 50)).alloc o).drew.cell? ⟨g, i * 4 + 3, none⟩ = some (.float .f64 m) := fun o => (World.cell?_alloc_lt _ o ⟨g, i * 4 + 3, none⟩ (by simp; omega)).trans k3
  go_wp2
  go_returns
  exact ⟨rfl, by go_grown⟩

theorem Get_any (q : Int) (q0 : 0 ≤ q) (q1 : q ≤ 3) (g i : Nat) (n c : Nat) (ns : List Nat) (w : World) (h : Blk w g 45 (flV ns).toArray) (hn : ns.length = n) (hi : (i + 1) * wd q ≤ n) (hl : n ≤ 1000000000) :
    Calls Tryz.prog 56 #[.agg #[.int .u8 q, .slice (some ⟨g, 0, none⟩) n c], .int .i64 i] w fun e w' =>
      e = .returned (.agg #[.float .f64 (ptN q ns i).1, .float .f64 (ptN q ns i).2.1, .float .f64 (ptN q ns i).2.2.1, .float .f64 (ptN q ns i).2.2.2, .int .u8 q]) ∧ Below w.heap.size w w' := by
  rcases wd_cases q q0 q1 with ⟨rfl, h0⟩ | ⟨rfl, h0⟩ | ⟨rfl, h0⟩ | ⟨rfl, h0⟩ <;> rw [h0] at hi
  · simpa [ptN, h0] using Get0 g i n c ns w h hn hi hl
  · simpa [ptN, h0] using Get1 g i n c ns w h hn hi hl
  · simpa [ptN, h0] using Get2 g i n c ns w h hn hi hl
  · simpa [ptN, h0] using Get3 g i n c ns w h hn hi hl

end Go.Proofs.YtpbcfgehmalppaaGreatDoor
