/- A place out of a sequence: Sequence.Get, under each type of coordinates (printed by gen_get2.py). -/
import Derived.Test.YtpbcfgehmalppaaGreatDoorKA
namespace Go.Proofs.YtpbcfgehmalppaaGreatDoor
open Go.RowKit Go.Proofs.YtpbcfgehmalppaaGreatDoorW.PrintWords

attribute [local go_sem] Go.Proofs.YtpbcfgehmalppaaGreatDoor.run_store_float

set_option maxHeartbeats 4000000 in
set_option maxRecDepth 100000 in
theorem Get0 (ad : Addr) (i : Nat) (n c : Nat) (ns : List Nat) (w : World) (hgl : ad.block < w.heap.size) (h : ∀ j, j < n → w.cell? (ad.add j) = some (.float .f64 (ns.getD j 0))) (hi : (i + 1) * 2 ≤ n) (hl : n ≤ 1000000000) :
    Calls Tryz.prog 56 #[.agg #[.int .u8 0, .slice (some ad) n c], .int .i64 i] w fun e w' =>
      e = .returned (.agg #[.float .f64 (ns.getD (i * 2) 0), .float .f64 (ns.getD (i * 2 + 1) 0), .float .f64 (0), .float .f64 (0), .int .u8 0]) ∧ Below w.heap.size w w' := by
  have c0 := h (i * 2) (by omega)
  have c1 := h (i * 2 + 1) (by omega)
  generalize ns.getD (i * 2) 0 = x at *
  generalize ns.getD (i * 2 + 1) 0 = y at *
  clear h
  have hw2 : wd 0 = 2 := by simp [wd]
  go_enter Tryz.func56, Tryz.ntmps56
  go_wp2_with fail
  refine (dimension_any 0 (by omega) (by omega) _).mono ?_
  rintro e w1 ⟨rfl, rfl⟩
  rw [hw2]
  have b0 := (Blk.new w 78 #[.int .u8 0, .slice (some ad) n c]).alloc (.cells #[.float .f64 0, .float .f64 0, .float .f64 0, .float .f64 0, .int .u8 0] 50)
  have b1 := Blk.new (w.alloc (.cells #[.int .u8 0, .slice (some ad) n c] 78)) 50 #[.float .f64 0, .float .f64 0, .float .f64 0, .float .f64 0, .int .u8 0]
  rw [World.size_alloc] at b1
  have hb : Below w.heap.size w ((w.alloc (.cells #[.int .u8 0, .slice (some ad) n c] 78)).alloc (.cells #[.float .f64 0, .float .f64 0, .float .f64 0, .float .f64 0, .int .u8 0] 50)) := ((Below.refl _ _).alloc (Nat.le_refl _) _).alloc (by simp) _
  have k0 := (hb.cell (p := ad.add (i * 2)) (by rw [block_of_add]; exact hgl)).trans c0
  have k1 := (hb.cell (p := ad.add (i * 2 + 1)) (by rw [block_of_add]; exact hgl)).trans c1
  go_wp2_with fail
  generalize hVV : ((w.alloc (.cells #[.int .u8 0, .slice (some ad) n c] 78)).alloc (.cells #[.float .f64 0, .float .f64 0, .float .f64 0, .float .f64 0, .int .u8 0] 50)) = V at *
  have HVV := Lib.hid hVV
  clear hVV
  have hVl := b1.lt
  have s0 := b0.cell 0
  have s1 := b0.cell 1
  have r0 := b1.cell 0
  have r1 := b1.cell 1
  have r2 := b1.cell 2
  have r3 := b1.cell 3
  have r4 := b1.cell 4
  have g0 := b1.frozen 0
  have g1 := b1.frozen 1
  have g2 := b1.frozen 2
  have g3 := b1.frozen 3
  have g4 := b1.frozen 4
  simp at s0 s1 r0 r1 r2 r3 r4
  have hV0 : w.heap.size < V.heap.size := by omega
  have hVg : ad.block < V.heap.size := by omega
  have A0 := (World.cell?_alloc_lt V (.cells #[.float .f64 0, .float .f64 0, .float .f64 0, .float .f64 0, .int .u8 0] 50) ⟨w.heap.size, 0, none⟩ hV0).trans s0
  have A1 := (World.cell?_alloc_lt V (.cells #[.float .f64 0, .float .f64 0, .float .f64 0, .float .f64 0, .int .u8 0] 50) ⟨w.heap.size, 1, none⟩ hV0).trans s1
  have B0 := (World.cell?_alloc_lt V (.cells #[.float .f64 0, .float .f64 0, .float .f64 0, .float .f64 0, .int .u8 0] 50) (ad.add (i * 2)) (by rw [block_of_add]; exact hVg)).trans k0
  have B1 := (World.cell?_alloc_lt V (.cells #[.float .f64 0, .float .f64 0, .float .f64 0, .float .f64 0, .int .u8 0] 50) (ad.add (i * 2 + 1)) (by rw [block_of_add]; exact hVg)).trans k1
  have L0 : (ad.add (i * 2)).block < V.heap.size := by rw [block_of_add]; exact hVg
  have M0 := (World.cell?_drew (V.alloc (.cells #[.float .f64 0, .float .f64 0, .float .f64 0, .float .f64 0, .int .u8 0] 50)) (ad.add (i * 2))).trans B0
  have L1 : (ad.add (i * 2 + 1)).block < V.heap.size := by rw [block_of_add]; exact hVg
  have M1 := (World.cell?_drew (V.alloc (.cells #[.float .f64 0, .float .f64 0, .float .f64 0, .float .f64 0, .int .u8 0] 50)) (ad.add (i * 2 + 1))).trans B1
  have au : ∀ n, 0 < n → ad.add n = ⟨ad.block, ad.off + n, none⟩ := fun n hn => by unfold Addr.add; rw [if_neg (by omega)]
  have N1 := M1
  have O1 := B1
  have P1 := L1
  have Q1 := k1
  rw [au (i * 2 + 1) (by omega)] at N1 O1 P1 Q1
  have AU := Lib.hid au
  clear au
  go_region
  have hVV := HVV.out
  clear HVV
  subst hVV
  clear hb b0 b1 A0 A1 B0 B1 L0 L1 M0 M1 N1 O1 P1 Q1 s0 s1 r0 r1 r2 r3 r4 g0 g1 g2 g3 g4 hVl hV0 hVg
  go_wp2
  go_returns
  exact ⟨rfl, by go_grown⟩

set_option maxHeartbeats 4000000 in
set_option maxRecDepth 100000 in
theorem Get1 (ad : Addr) (i : Nat) (n c : Nat) (ns : List Nat) (w : World) (hgl : ad.block < w.heap.size) (h : ∀ j, j < n → w.cell? (ad.add j) = some (.float .f64 (ns.getD j 0))) (hi : (i + 1) * 3 ≤ n) (hl : n ≤ 1000000000) :
    Calls Tryz.prog 56 #[.agg #[.int .u8 1, .slice (some ad) n c], .int .i64 i] w fun e w' =>
      e = .returned (.agg #[.float .f64 (ns.getD (i * 3) 0), .float .f64 (ns.getD (i * 3 + 1) 0), .float .f64 (ns.getD (i * 3 + 2) 0), .float .f64 (0), .int .u8 1]) ∧ Below w.heap.size w w' := by
  have c0 := h (i * 3) (by omega)
  have c1 := h (i * 3 + 1) (by omega)
  have c2 := h (i * 3 + 2) (by omega)
  generalize ns.getD (i * 3) 0 = x at *
  generalize ns.getD (i * 3 + 1) 0 = y at *
  generalize ns.getD (i * 3 + 2) 0 = z at *
  clear h
  have hw2 : wd 1 = 3 := by simp [wd]
  go_enter Tryz.func56, Tryz.ntmps56
  go_wp2_with fail
  refine (dimension_any 1 (by omega) (by omega) _).mono ?_
  rintro e w1 ⟨rfl, rfl⟩
  rw [hw2]
  have b0 := (Blk.new w 78 #[.int .u8 1, .slice (some ad) n c]).alloc (.cells #[.float .f64 0, .float .f64 0, .float .f64 0, .float .f64 0, .int .u8 0] 50)
  have b1 := Blk.new (w.alloc (.cells #[.int .u8 1, .slice (some ad) n c] 78)) 50 #[.float .f64 0, .float .f64 0, .float .f64 0, .float .f64 0, .int .u8 0]
  rw [World.size_alloc] at b1
  have hb : Below w.heap.size w ((w.alloc (.cells #[.int .u8 1, .slice (some ad) n c] 78)).alloc (.cells #[.float .f64 0, .float .f64 0, .float .f64 0, .float .f64 0, .int .u8 0] 50)) := ((Below.refl _ _).alloc (Nat.le_refl _) _).alloc (by simp) _
  have k0 := (hb.cell (p := ad.add (i * 3)) (by rw [block_of_add]; exact hgl)).trans c0
  have k1 := (hb.cell (p := ad.add (i * 3 + 1)) (by rw [block_of_add]; exact hgl)).trans c1
  have k2 := (hb.cell (p := ad.add (i * 3 + 2)) (by rw [block_of_add]; exact hgl)).trans c2
  go_wp2_with fail
  generalize hVV : ((w.alloc (.cells #[.int .u8 1, .slice (some ad) n c] 78)).alloc (.cells #[.float .f64 0, .float .f64 0, .float .f64 0, .float .f64 0, .int .u8 0] 50)) = V at *
  have HVV := Lib.hid hVV
  clear hVV
  have hVl := b1.lt
  have s0 := b0.cell 0
  have s1 := b0.cell 1
  have r0 := b1.cell 0
  have r1 := b1.cell 1
  have r2 := b1.cell 2
  have r3 := b1.cell 3
  have r4 := b1.cell 4
  have g0 := b1.frozen 0
  have g1 := b1.frozen 1
  have g2 := b1.frozen 2
  have g3 := b1.frozen 3
  have g4 := b1.frozen 4
  simp at s0 s1 r0 r1 r2 r3 r4
  have hV0 : w.heap.size < V.heap.size := by omega
  have hVg : ad.block < V.heap.size := by omega
  have A0 := (World.cell?_alloc_lt V (.cells #[.float .f64 0, .float .f64 0, .float .f64 0, .float .f64 0, .int .u8 0] 50) ⟨w.heap.size, 0, none⟩ hV0).trans s0
  have A1 := (World.cell?_alloc_lt V (.cells #[.float .f64 0, .float .f64 0, .float .f64 0, .float .f64 0, .int .u8 0] 50) ⟨w.heap.size, 1, none⟩ hV0).trans s1
  have B0 := (World.cell?_alloc_lt V (.cells #[.float .f64 0, .float .f64 0, .float .f64 0, .float .f64 0, .int .u8 0] 50) (ad.add (i * 3)) (by rw [block_of_add]; exact hVg)).trans k0
  have B1 := (World.cell?_alloc_lt V (.cells #[.float .f64 0, .float .f64 0, .float .f64 0, .float .f64 0, .int .u8 0] 50) (ad.add (i * 3 + 1)) (by rw [block_of_add]; exact hVg)).trans k1
  have L0 : (ad.add (i * 3)).block < V.heap.size := by rw [block_of_add]; exact hVg
  have M0 := (World.cell?_drew (V.alloc (.cells #[.float .f64 0, .float .f64 0, .float .f64 0, .float .f64 0, .int .u8 0] 50)) (ad.add (i * 3))).trans B0
  have L1 : (ad.add (i * 3 + 1)).block < V.heap.size := by rw [block_of_add]; exact hVg
  have M1 := (World.cell?_drew (V.alloc (.cells #[.float .f64 0, .float .f64 0, .float .f64 0, .float .f64 0, .int .u8 0] 50)) (ad.add (i * 3 + 1))).trans B1
  have au : ∀ n, 0 < n → ad.add n = ⟨ad.block, ad.off + n, none⟩ := fun n hn => by unfold Addr.add; rw [if_neg (by omega)]
  have N1 := M1
  have O1 := B1
  have P1 := L1
  have Q1 := k1
  rw [au (i * 3 + 1) (by omega)] at N1 O1 P1 Q1
  have AU := Lib.hid au
  clear au
  go_region
  have hVV := HVV.out
  clear HVV
  subst hVV
  clear hb b0 b1 A0 A1 B0 B1 L0 L1 M0 M1 N1 O1 P1 Q1 s0 s1 r0 r1 r2 r3 r4 g0 g1 g2 g3 g4 hVl hV0 hVg
  have e2 : ∀ o : Obj, (((w.alloc (.cells #[.int .u8 1, .slice (some ad) n c] 78)).alloc (.cells #[.float .f64 0, .float .f64 0, .float .f64 0, .float .f64 0, .int .u8 0] 50)).alloc o).drew.cell? (ad.add (i * 3 + 2)) = some (.float .f64 z) := fun o => (World.cell?_alloc_lt _ o (ad.add (i * 3 + 2)) (by rw [block_of_add]; simp; omega)).trans k2
  have E2 := e2
  simp only [AU.out (i * 3 + 2) (by omega)] at E2
  go_wp2
  go_returns
  exact ⟨rfl, by go_grown⟩

set_option maxHeartbeats 4000000 in
set_option maxRecDepth 100000 in
theorem Get2 (ad : Addr) (i : Nat) (n c : Nat) (ns : List Nat) (w : World) (hgl : ad.block < w.heap.size) (h : ∀ j, j < n → w.cell? (ad.add j) = some (.float .f64 (ns.getD j 0))) (hi : (i + 1) * 3 ≤ n) (hl : n ≤ 1000000000) :
    Calls Tryz.prog 56 #[.agg #[.int .u8 2, .slice (some ad) n c], .int .i64 i] w fun e w' =>
      e = .returned (.agg #[.float .f64 (ns.getD (i * 3) 0), .float .f64 (ns.getD (i * 3 + 1) 0), .float .f64 (0), .float .f64 (ns.getD (i * 3 + 2) 0), .int .u8 2]) ∧ Below w.heap.size w w' := by
  have c0 := h (i * 3) (by omega)
  have c1 := h (i * 3 + 1) (by omega)
  have c2 := h (i * 3 + 2) (by omega)
  generalize ns.getD (i * 3) 0 = x at *
  generalize ns.getD (i * 3 + 1) 0 = y at *
  generalize ns.getD (i * 3 + 2) 0 = m at *
  clear h
  have hw2 : wd 2 = 3 := by simp [wd]
  go_enter Tryz.func56, Tryz.ntmps56
  go_wp2_with fail
  refine (dimension_any 2 (by omega) (by omega) _).mono ?_
  rintro e w1 ⟨rfl, rfl⟩
  rw [hw2]
  have b0 := (Blk.new w 78 #[.int .u8 2, .slice (some ad) n c]).alloc (.cells #[.float .f64 0, .float .f64 0, .float .f64 0, .float .f64 0, .int .u8 0] 50)
  have b1 := Blk.new (w.alloc (.cells #[.int .u8 2, .slice (some ad) n c] 78)) 50 #[.float .f64 0, .float .f64 0, .float .f64 0, .float .f64 0, .int .u8 0]
  rw [World.size_alloc] at b1
  have hb : Below w.heap.size w ((w.alloc (.cells #[.int .u8 2, .slice (some ad) n c] 78)).alloc (.cells #[.float .f64 0, .float .f64 0, .float .f64 0, .float .f64 0, .int .u8 0] 50)) := ((Below.refl _ _).alloc (Nat.le_refl _) _).alloc (by simp) _
  have k0 := (hb.cell (p := ad.add (i * 3)) (by rw [block_of_add]; exact hgl)).trans c0
  have k1 := (hb.cell (p := ad.add (i * 3 + 1)) (by rw [block_of_add]; exact hgl)).trans c1
  have k2 := (hb.cell (p := ad.add (i * 3 + 2)) (by rw [block_of_add]; exact hgl)).trans c2
  go_wp2_with fail
  generalize hVV : ((w.alloc (.cells #[.int .u8 2, .slice (some ad) n c] 78)).alloc (.cells #[.float .f64 0, .float .f64 0, .float .f64 0, .float .f64 0, .int .u8 0] 50)) = V at *
  have HVV := Lib.hid hVV
  clear hVV
  have hVl := b1.lt
  have s0 := b0.cell 0
  have s1 := b0.cell 1
  have r0 := b1.cell 0
  have r1 := b1.cell 1
  have r2 := b1.cell 2
  have r3 := b1.cell 3
  have r4 := b1.cell 4
  have g0 := b1.frozen 0
  have g1 := b1.frozen 1
  have g2 := b1.frozen 2
  have g3 := b1.frozen 3
  have g4 := b1.frozen 4
  simp at s0 s1 r0 r1 r2 r3 r4
  have hV0 : w.heap.size < V.heap.size := by omega
  have hVg : ad.block < V.heap.size := by omega
  have A0 := (World.cell?_alloc_lt V (.cells #[.float .f64 0, .float .f64 0, .float .f64 0, .float .f64 0, .int .u8 0] 50) ⟨w.heap.size, 0, none⟩ hV0).trans s0
  have A1 := (World.cell?_alloc_lt V (.cells #[.float .f64 0, .float .f64 0, .float .f64 0, .float .f64 0, .int .u8 0] 50) ⟨w.heap.size, 1, none⟩ hV0).trans s1
  have B0 := (World.cell?_alloc_lt V (.cells #[.float .f64 0, .float .f64 0, .float .f64 0, .float .f64 0, .int .u8 0] 50) (ad.add (i * 3)) (by rw [block_of_add]; exact hVg)).trans k0
  have B1 := (World.cell?_alloc_lt V (.cells #[.float .f64 0, .float .f64 0, .float .f64 0, .float .f64 0, .int .u8 0] 50) (ad.add (i * 3 + 1)) (by rw [block_of_add]; exact hVg)).trans k1
  have L0 : (ad.add (i * 3)).block < V.heap.size := by rw [block_of_add]; exact hVg
  have M0 := (World.cell?_drew (V.alloc (.cells #[.float .f64 0, .float .f64 0, .float .f64 0, .float .f64 0, .int .u8 0] 50)) (ad.add (i * 3))).trans B0
  have L1 : (ad.add (i * 3 + 1)).block < V.heap.size := by rw [block_of_add]; exact hVg
  have M1 := (World.cell?_drew (V.alloc (.cells #[.float .f64 0, .float .f64 0, .float .f64 0, .float .f64 0, .int .u8 0] 50)) (ad.add (i * 3 + 1))).trans B1
  have au : ∀ n, 0 < n → ad.add n = ⟨ad.block, ad.off + n, none⟩ := fun n hn => by unfold Addr.add; rw [if_neg (by omega)]
  have N1 := M1
  have O1 := B1
  have P1 := L1
  have Q1 := k1
  rw [au (i * 3 + 1) (by omega)] at N1 O1 P1 Q1
  have AU := Lib.hid au
  clear au
  go_region
  have hVV := HVV.out
  clear HVV
  subst hVV
  clear hb b0 b1 A0 A1 B0 B1 L0 L1 M0 M1 N1 O1 P1 Q1 s0 s1 r0 r1 r2 r3 r4 g0 g1 g2 g3 g4 hVl hV0 hVg
  have e2 : ∀ o : Obj, (((w.alloc (.cells #[.int .u8 2, .slice (some ad) n c] 78)).alloc (.cells #[.float .f64 0, .float .f64 0, .float .f64 0, .float .f64 0, .int .u8 0] 50)).alloc o).drew.cell? (ad.add (i * 3 + 2)) = some (.float .f64 m) := fun o => (World.cell?_alloc_lt _ o (ad.add (i * 3 + 2)) (by rw [block_of_add]; simp; omega)).trans k2
  have E2 := e2
  simp only [AU.out (i * 3 + 2) (by omega)] at E2
  go_wp2
  go_returns
  exact ⟨rfl, by go_grown⟩

set_option maxHeartbeats 4000000 in
set_option maxRecDepth 100000 in
theorem Get3 (ad : Addr) (i : Nat) (n c : Nat) (ns : List Nat) (w : World) (hgl : ad.block < w.heap.size) (h : ∀ j, j < n → w.cell? (ad.add j) = some (.float .f64 (ns.getD j 0))) (hi : (i + 1) * 4 ≤ n) (hl : n ≤ 1000000000) :
    Calls Tryz.prog 56 #[.agg #[.int .u8 3, .slice (some ad) n c], .int .i64 i] w fun e w' =>
      e = .returned (.agg #[.float .f64 (ns.getD (i * 4) 0), .float .f64 (ns.getD (i * 4 + 1) 0), .float .f64 (ns.getD (i * 4 + 2) 0), .float .f64 (ns.getD (i * 4 + 3) 0), .int .u8 3]) ∧ Below w.heap.size w w' := by
  have c0 := h (i * 4) (by omega)
  have c1 := h (i * 4 + 1) (by omega)
  have c2 := h (i * 4 + 2) (by omega)
  have c3 := h (i * 4 + 3) (by omega)
  generalize ns.getD (i * 4) 0 = x at *
  generalize ns.getD (i * 4 + 1) 0 = y at *
  generalize ns.getD (i * 4 + 2) 0 = z at *
  generalize ns.getD (i * 4 + 3) 0 = m at *
  clear h
  have hw2 : wd 3 = 4 := by simp [wd]
  go_enter Tryz.func56, Tryz.ntmps56
  go_wp2_with fail
  refine (dimension_any 3 (by omega) (by omega) _).mono ?_
  rintro e w1 ⟨rfl, rfl⟩
  rw [hw2]
  have b0 := (Blk.new w 78 #[.int .u8 3, .slice (some ad) n c]).alloc (.cells #[.float .f64 0, .float .f64 0, .float .f64 0, .float .f64 0, .int .u8 0] 50)
  have b1 := Blk.new (w.alloc (.cells #[.int .u8 3, .slice (some ad) n c] 78)) 50 #[.float .f64 0, .float .f64 0, .float .f64 0, .float .f64 0, .int .u8 0]
  rw [World.size_alloc] at b1
  have hb : Below w.heap.size w ((w.alloc (.cells #[.int .u8 3, .slice (some ad) n c] 78)).alloc (.cells #[.float .f64 0, .float .f64 0, .float .f64 0, .float .f64 0, .int .u8 0] 50)) := ((Below.refl _ _).alloc (Nat.le_refl _) _).alloc (by simp) _
  have k0 := (hb.cell (p := ad.add (i * 4)) (by rw [block_of_add]; exact hgl)).trans c0
  have k1 := (hb.cell (p := ad.add (i * 4 + 1)) (by rw [block_of_add]; exact hgl)).trans c1
  have k2 := (hb.cell (p := ad.add (i * 4 + 2)) (by rw [block_of_add]; exact hgl)).trans c2
  have k3 := (hb.cell (p := ad.add (i * 4 + 3)) (by rw [block_of_add]; exact hgl)).trans c3
  go_wp2_with fail
  generalize hVV : ((w.alloc (.cells #[.int .u8 3, .slice (some ad) n c] 78)).alloc (.cells #[.float .f64 0, .float .f64 0, .float .f64 0, .float .f64 0, .int .u8 0] 50)) = V at *
  have HVV := Lib.hid hVV
  clear hVV
  have hVl := b1.lt
  have s0 := b0.cell 0
  have s1 := b0.cell 1
  have r0 := b1.cell 0
  have r1 := b1.cell 1
  have r2 := b1.cell 2
  have r3 := b1.cell 3
  have r4 := b1.cell 4
  have g0 := b1.frozen 0
  have g1 := b1.frozen 1
  have g2 := b1.frozen 2
  have g3 := b1.frozen 3
  have g4 := b1.frozen 4
  simp at s0 s1 r0 r1 r2 r3 r4
  have hV0 : w.heap.size < V.heap.size := by omega
  have hVg : ad.block < V.heap.size := by omega
  have A0 := (World.cell?_alloc_lt V (.cells #[.float .f64 0, .float .f64 0, .float .f64 0, .float .f64 0, .int .u8 0] 50) ⟨w.heap.size, 0, none⟩ hV0).trans s0
  have A1 := (World.cell?_alloc_lt V (.cells #[.float .f64 0, .float .f64 0, .float .f64 0, .float .f64 0, .int .u8 0] 50) ⟨w.heap.size, 1, none⟩ hV0).trans s1
  have B0 := (World.cell?_alloc_lt V (.cells #[.float .f64 0, .float .f64 0, .float .f64 0, .float .f64 0, .int .u8 0] 50) (ad.add (i * 4)) (by rw [block_of_add]; exact hVg)).trans k0
  have B1 := (World.cell?_alloc_lt V (.cells #[.float .f64 0, .float .f64 0, .float .f64 0, .float .f64 0, .int .u8 0] 50) (ad.add (i * 4 + 1)) (by rw [block_of_add]; exact hVg)).trans k1
  have L0 : (ad.add (i * 4)).block < V.heap.size := by rw [block_of_add]; exact hVg
  have M0 := (World.cell?_drew (V.alloc (.cells #[.float .f64 0, .float .f64 0, .float .f64 0, .float .f64 0, .int .u8 0] 50)) (ad.add (i * 4))).trans B0
  have L1 : (ad.add (i * 4 + 1)).block < V.heap.size := by rw [block_of_add]; exact hVg
  have M1 := (World.cell?_drew (V.alloc (.cells #[.float .f64 0, .float .f64 0, .float .f64 0, .float .f64 0, .int .u8 0] 50)) (ad.add (i * 4 + 1))).trans B1
  have au : ∀ n, 0 < n → ad.add n = ⟨ad.block, ad.off + n, none⟩ := fun n hn => by unfold Addr.add; rw [if_neg (by omega)]
  have N1 := M1
  have O1 := B1
  have P1 := L1
  have Q1 := k1
  rw [au (i * 4 + 1) (by omega)] at N1 O1 P1 Q1
  have AU := Lib.hid au
  clear au
  go_region
  have hVV := HVV.out
  clear HVV
  subst hVV
  clear hb b0 b1 A0 A1 B0 B1 L0 L1 M0 M1 N1 O1 P1 Q1 s0 s1 r0 r1 r2 r3 r4 g0 g1 g2 g3 g4 hVl hV0 hVg
  have e2 : ∀ o : Obj, (((w.alloc (.cells #[.int .u8 3, .slice (some ad) n c] 78)).alloc (.cells #[.float .f64 0, .float .f64 0, .float .f64 0, .float .f64 0, .int .u8 0] 50)).alloc o).drew.cell? (ad.add (i * 4 + 2)) = some (.float .f64 z) := fun o => (World.cell?_alloc_lt _ o (ad.add (i * 4 + 2)) (by rw [block_of_add]; simp; omega)).trans k2
  have e3 : ∀ o : Obj, (((w.alloc (.cells #[.int .u8 3, .slice (some ad) n c] 78)).alloc (.cells #[.float .f64 0, .float .f64 0, .float .f64 0, .float .f64 0, .int .u8 0] 50)).alloc o).drew.cell? (ad.add (i * 4 + 3)) = some (.float .f64 m) := fun o => (World.cell?_alloc_lt _ o (ad.add (i * 4 + 3)) (by rw [block_of_add]; simp; omega)).trans k3
  have E2 := e2
  simp only [AU.out (i * 4 + 2) (by omega)] at E2
  have E3 := e3
  simp only [AU.out (i * 4 + 3) (by omega)] at E3
  go_wp2
  go_returns
  exact ⟨rfl, by go_grown⟩

end Go.Proofs.YtpbcfgehmalppaaGreatDoor
namespace Go.Proofs.YtpbcfgehmalppaaGreatDoorW.PrintWords
open Go.RowKit Go.Proofs.YtpbcfgehmalppaaGreatDoor

def geom_Sequence_Get.f (q : Int) (ns : List Nat) (i : Int) : Option (Nat × Nat × Nat × Nat × Int) :=
  if 0 ≤ q ∧ q ≤ 3 ∧ 0 ≤ i ∧ ns.length ≤ 1000000000 ∧ (i.toNat + 1) * wd q ≤ ns.length then some ((ptN q ns i.toNat).1, (ptN q ns i.toNat).2.1, (ptN q ns i.toNat).2.2.1, (ptN q ns i.toNat).2.2.2, q) else none

theorem geom_Sequence_Get.calls (a0_0 : Int) (A0_1 : Option Addr) (c0_1 : Nat) (l0_1 : List Nat) (a1 : Int) (r1 : Nat) (r2 : Nat) (r3 : Nat) (r4 : Nat) (r5 : Int) (w : World) (hr0_1 : Kd.C Kd.float w A0_1 l0_1.length l0_1) (hc0_1 : l0_1.length ≤ c0_1) (h : geom_Sequence_Get.f a0_0 l0_1 a1 = some (r1, r2, r3, r4, r5)) :
    Calls Tryz.prog 56 #[.agg #[.int .u8 a0_0, .slice A0_1 l0_1.length c0_1], .int .i64 a1] w fun e w' => e = .returned (.agg #[.float .f64 r1, .float .f64 r2, .float .f64 r3, .float .f64 r4, .int .u8 r5]) ∧ Below w.heap.size w w' := by
  unfold geom_Sequence_Get.f at h
  split at h
  · rename_i hh
    obtain ⟨q0, q1, i0, hl, hi⟩ := hh
    obtain ⟨i, rfl⟩ := Int.eq_ofNat_of_zero_le i0
    rw [Int.toNat_natCast] at h hi
    simp only [Option.some.injEq, Prod.mk.injEq] at h
    obtain ⟨rfl, rfl, rfl, rfl, rfl⟩ := h
    have hp : 0 < l0_1.length := by
      rcases wd_cases a0_0 q0 q1 with ⟨_, e⟩ | ⟨_, e⟩ | ⟨_, e⟩ | ⟨_, e⟩ <;> rw [e] at hi <;> omega
    obtain ⟨ad, rfl, hb, hc⟩ := fl_cells hr0_1 hp
    rcases wd_cases a0_0 q0 q1 with ⟨rfl, h0⟩ | ⟨rfl, h0⟩ | ⟨rfl, h0⟩ | ⟨rfl, h0⟩ <;> rw [h0] at hi
    · simpa [ptN, h0] using Get0 ad i l0_1.length c0_1 l0_1 w hb hc hi hl
    · simpa [ptN, h0] using Get1 ad i l0_1.length c0_1 l0_1 w hb hc hi hl
    · simpa [ptN, h0] using Get2 ad i l0_1.length c0_1 l0_1 w hb hc hi hl
    · simpa [ptN, h0] using Get3 ad i l0_1.length c0_1 l0_1 w hb hc hi hl
  · cases h

end Go.Proofs.YtpbcfgehmalppaaGreatDoorW.PrintWords
