import Derived.Test.YtofdccmmagcamaaGreatDoorMhC
import Derived.BigRegion
import Derived.Lib.MinMax
import Derived.BigQuiet
import Derived.StillTailTactics
/- The places of a leaf: spec.Places, under each type of coordinates (printed by gen_places.py). -/
set_option maxHeartbeats 8000000
set_option linter.unusedSimpArgs false
set_option linter.unusedVariables false
namespace Go.Proofs.YtofdccmmagcamaaGreatDoor
open Go.RowKit

attribute [local go_sem] run_store_float

/-- The row v of elements of type e, sz cells each, holds n of them, with the cells xs, in world W; since w0 only the block 'row' and what is new have turned. -/
structure Rn (e : TypeId) (sz : Nat) (w0 W : World) (row : Option Nat) (v : Value) (n : Nat) (xs : List Value) : Prop where
  own : W.ownsRow 0 e sz v n xs
  grown : w0.grownBy W row
  place : v.ownBlock = row ∨ ∃ g, v.ownBlock = some g ∧ w0.heap.size ≤ g
theorem Rn.nil (e : TypeId) (sz : Nat) (w : World) : Rn e sz w w none (.slice none 0 0) 0 [] := ⟨World.ownsRow_nil _ _ _ _, World.grownBy.refl w _, .inl rfl⟩
theorem Rn.step {e : TypeId} {sz : Nat} {w0 W W1 : World} {row : Option Nat} {v v1 : Value} {n n1 : Nat} {xs xs1 : List Value} (h : Rn e sz w0 W row v n xs) (hg : W.grownBy W1 v.ownBlock) (ho : W1.ownsRow 0 e sz v1 n1 xs1)
    (hp : v1.ownBlock = v.ownBlock ∨ ∃ g, v1.ownBlock = some g ∧ W.heap.size ≤ g) : Rn e sz w0 W1 row v1 n1 xs1 := by
  have hgr : w0.grownBy W1 row := ⟨hg.os.trans h.grown.os, hg.tape.trans h.grown.tape, hg.output.trans h.grown.output, Nat.le_trans h.grown.size hg.size, fun k hk hne => by
    refine (hg.block k (Nat.lt_of_lt_of_le hk h.grown.size) ?_).trans (h.grown.block k hk hne)
    intro e
    rcases h.place with hp | ⟨g, hp, hl⟩
    · exact hne (e.trans hp)
    · rw [hp] at e
      injection e with e
      omega⟩
  refine ⟨ho, hgr, ?_⟩
  rcases hp with hp | ⟨g, hp, hl⟩
  · rw [hp]; exact h.place
  · exact .inr ⟨g, hp, Nat.le_trans h.grown.size hl⟩
theorem Rn.below0 {e : TypeId} {sz : Nat} {w0 W : World} {v : Value} {n : Nat} {xs : List Value} (h : Rn e sz w0 W none v n xs) : Below w0.heap.size w0 W := ⟨h.grown.os, h.grown.tape, h.grown.output, h.grown.size, fun i hi => h.grown.block i hi (by simp)⟩

/-- The cells of places. -/
def plV (ps : List Pl) : List Value := ps.flatMap fun p => [.float .f64 p.1, .float .f64 p.2.1, .float .f64 p.2.2.1, .float .f64 p.2.2.2]
theorem plV_snoc (ps : List Pl) (p : Pl) : plV (ps ++ [p]) = plV ps ++ [.float .f64 p.1, .float .f64 p.2.1, .float .f64 p.2.2.1, .float .f64 p.2.2.2] := by simp [plV]
/-- The first k places of numbers under a type. -/
def ptsN (q : Int) (ns : List Nat) (k : Nat) : List Pl := (List.range k).map (ptN q ns)
theorem ptsN_succ (q : Int) (ns : List Nat) (k : Nat) : ptsN q ns (k + 1) = ptsN q ns k ++ [ptN q ns k] := by simp [ptsN, List.range_succ]
theorem ptsN_length (q : Int) (ns : List Nat) (k : Nat) : (ptsN q ns k).length = k := by simp [ptsN]

theorem own_drew {w : World} {b sz n : Nat} {e : TypeId} {v : Value} {xs : List Value} (h : w.ownsRow b e sz v n xs) : w.drew.ownsRow b e sz v n xs := h
theorem reads_new4 {w : World} {t g : Nat} {a b c d : Value} (hg : g = w.heap.size) : Reads (w.alloc (.cells #[a, b, c, d] t)) (w.heap.size + 1) 4 (some ⟨g, 0, none⟩) 1 [a, b, c, d] := by
  subst hg
  have h := Blk.new w t #[a, b, c, d]
  refine ⟨rfl, fun _ => ⟨_, rfl, Nat.lt_succ_self _, fun j u hu => ?_⟩⟩
  have ha : (⟨w.heap.size, 0, none⟩ : Addr).add j = ⟨w.heap.size, j, none⟩ := by unfold Addr.add; split <;> simp_all
  rw [ha, h.cell j]
  simpa using hu

theorem info_place : (Tryz.prog.info? 100).map (fun i => (i.zero, i.size, i.bytes)) = some (some (.agg #[.float .f64 0, .float .f64 0, .float .f64 0, .float .f64 0]), 4, 32) := by kernel_rfl

set_option maxRecDepth 100000 in
theorem Places0 (g n c : Nat) (A : Option Addr) (ns : List Nat) (w : World) (hA : 0 < n → A = some ⟨g, 0, none⟩ ∧ ∀ j, j < n → w.cell? ⟨g, j, none⟩ = some (.float .f64 (ns.getD j 0))) (hl : n ≤ 1000000000) :
    Calls Tryz.prog 55 #[.slice A n c, .int .i64 0] w fun e w' => ∃ v, e = .returned v ∧ Rn 100 4 w w' none v (n / 2) (plV (ptsN 0 ns (n / 2))) := by
  have hw2 : wd 0 = 2 := by simp [wd]
  have e1 := i64_and1' 0
  have e2 := i64_and2' 0
  simp at e1 e2
  obtain ⟨i0, hi0, hz0, hz1, hz2⟩ := info_parts info_place
  have HA := Hd hA
  clear hA
  go_enter Tryz.func55, Tryz.ntmps55
  go_wp2_with fail
  refine (Width_any 0 (by omega) (by omega) _).mono ?_
  rintro e w1 ⟨rfl, rfl⟩
  rw [hw2]
  go_wp2_with fail
  go_loopw [5, 7] (fun u i wr => ∃ j : Nat, j * 2 ≤ n ∧ i = .int .i64 ((j : Int) * 2) ∧ Rn 100 4 w1 wr none u j (plV (ptsN 0 ns j))) (fun _ i _ => n - (intOf i).toNat)
  case atStart => exact ⟨0, by omega, rfl, Rn.nil _ _ _⟩
  case round =>
    obtain ⟨j, hj, rfl, h1⟩ := hrel
    by_cases hlt : (j + 1) * 2 ≤ n
    · obtain ⟨rfl, hc⟩ := HA.out (by omega)
      have hd : decide ((j : Int) * 2 + 2 ≤ n) = true := decide_eq_true (by omega)
      have k0 := (h1.below0.cell (World.block_lt_of_cell? w1 _ (hc (j * 2) (by omega)))).trans (hc (j * 2) (by omega))
      have k1 := (h1.below0.cell (World.block_lt_of_cell? w1 _ (hc (j * 2 + 1) (by omega)))).trans (hc (j * 2 + 1) (by omega))
      have hgl := World.block_lt_of_cell? wr _ k0
      simp only at hgl
      have hpt : ptsN 0 ns (j + 1) = ptsN 0 ns j ++ [(ns.getD (j * 2) 0, ns.getD (j * 2 + 1) 0, 0, 0)] := by
        rw [ptsN_succ]
        simp [ptN, hw2]
      generalize ns.getD (j * 2) 0 = x at *
      generalize ns.getD (j * 2 + 1) 0 = y at *
      have B0 : ∀ o : Obj, (wr.alloc o).cell? ⟨g, j * 2, none⟩ = some (.float .f64 x) := fun o => (World.cell?_alloc_lt wr o ⟨g, j * 2, none⟩ hgl).trans k0
      have C0 : ∀ o : Obj, (wr.alloc o).drew.cell? ⟨g, j * 2, none⟩ = some (.float .f64 x) := fun o => B0 o
      have B1 : ∀ o : Obj, (wr.alloc o).cell? ⟨g, j * 2 + 1, none⟩ = some (.float .f64 y) := fun o => (World.cell?_alloc_lt wr o ⟨g, j * 2 + 1, none⟩ hgl).trans k1
      have C1 : ∀ o : Obj, (wr.alloc o).drew.cell? ⟨g, j * 2 + 1, none⟩ = some (.float .f64 y) := fun o => B1 o
      have H1 := Hd h1
      have HPT := Hd hpt
      clear h1 hpt hc
      generalize hxs : plV (ptsN 0 ns j) = xs at *
      have HX := Hd hxs
      clear hxs
      go_wp2_with fail
      go_region
      go_wp2_with (at_builtin; refine wpList_append_any _ rfl _ _ _ rfl 0 100 i0 (.agg #[.float .f64 0, .float .f64 0, .float .f64 0, .float .f64 0]) 4 32 Tryz.underlying97 hi0 hz0 hz1 hz2 rfl (by decide) _ j xs rfl (by exact World.ownsRow.alloc (own_drew (World.ownsRow.alloc H1.out.own _)) _) _ _ 1 _ [.float .f64 x, .float .f64 y, .float .f64 0, .float .f64 0] rfl (by exact reads_new4 (by simp)) (by simp [Value.oneCell']) (by simp only [maxLen]; omega) (by omega) (Nat.zero_le _) ?_; intro v1 W1 ho hg hp; have h2 := H1.out.step ((only_alloc (only_drew (World.grownBy_alloc wr _ _)) _).trans hg) ho (hp.imp id fun e => ⟨_, e, by simp; omega⟩); clear ho hg hp)
      go_roundw
      case rel =>
        refine ⟨j + 1, by omega, by first | go_num | (congr 1; omega), ?_⟩
        rw [HPT.out, plV_snoc, HX.out]
        exact h2
      case measure => simp [intOf]; omega
    · have hd : decide ((j : Int) * 2 + 2 ≤ n) = false := decide_eq_false (by omega)
      have ej : n / 2 = j := by omega
      go_wp2
      go_ret
      refine ⟨_, rfl, ?_⟩
      rw [ej]
      exact h1

set_option maxRecDepth 100000 in
theorem Places1 (g n c : Nat) (A : Option Addr) (ns : List Nat) (w : World) (hA : 0 < n → A = some ⟨g, 0, none⟩ ∧ ∀ j, j < n → w.cell? ⟨g, j, none⟩ = some (.float .f64 (ns.getD j 0))) (hl : n ≤ 1000000000) :
    Calls Tryz.prog 55 #[.slice A n c, .int .i64 1] w fun e w' => ∃ v, e = .returned v ∧ Rn 100 4 w w' none v (n / 3) (plV (ptsN 1 ns (n / 3))) := by
  have hw2 : wd 1 = 3 := by simp [wd]
  have e1 := i64_and1' 1
  have e2 := i64_and2' 1
  simp at e1 e2
  obtain ⟨i0, hi0, hz0, hz1, hz2⟩ := info_parts info_place
  have HA := Hd hA
  clear hA
  go_enter Tryz.func55, Tryz.ntmps55
  go_wp2_with fail
  refine (Width_any 1 (by omega) (by omega) _).mono ?_
  rintro e w1 ⟨rfl, rfl⟩
  rw [hw2]
  go_wp2_with fail
  go_loopw [5, 7] (fun u i wr => ∃ j : Nat, j * 3 ≤ n ∧ i = .int .i64 ((j : Int) * 3) ∧ Rn 100 4 w1 wr none u j (plV (ptsN 1 ns j))) (fun _ i _ => n - (intOf i).toNat)
  case atStart => exact ⟨0, by omega, rfl, Rn.nil _ _ _⟩
  case round =>
    obtain ⟨j, hj, rfl, h1⟩ := hrel
    by_cases hlt : (j + 1) * 3 ≤ n
    · obtain ⟨rfl, hc⟩ := HA.out (by omega)
      have hd : decide ((j : Int) * 3 + 3 ≤ n) = true := decide_eq_true (by omega)
      have k0 := (h1.below0.cell (World.block_lt_of_cell? w1 _ (hc (j * 3) (by omega)))).trans (hc (j * 3) (by omega))
      have k1 := (h1.below0.cell (World.block_lt_of_cell? w1 _ (hc (j * 3 + 1) (by omega)))).trans (hc (j * 3 + 1) (by omega))
      have k2 := (h1.below0.cell (World.block_lt_of_cell? w1 _ (hc (j * 3 + 2) (by omega)))).trans (hc (j * 3 + 2) (by omega))
      have hgl := World.block_lt_of_cell? wr _ k0
      simp only at hgl
      have hpt : ptsN 1 ns (j + 1) = ptsN 1 ns j ++ [(ns.getD (j * 3) 0, ns.getD (j * 3 + 1) 0, ns.getD (j * 3 + 2) 0, 0)] := by
        rw [ptsN_succ]
        simp [ptN, hw2]
      generalize ns.getD (j * 3) 0 = x at *
      generalize ns.getD (j * 3 + 1) 0 = y at *
      generalize ns.getD (j * 3 + 2) 0 = z at *
      have B0 : ∀ o : Obj, (wr.alloc o).cell? ⟨g, j * 3, none⟩ = some (.float .f64 x) := fun o => (World.cell?_alloc_lt wr o ⟨g, j * 3, none⟩ hgl).trans k0
      have C0 : ∀ o : Obj, (wr.alloc o).drew.cell? ⟨g, j * 3, none⟩ = some (.float .f64 x) := fun o => B0 o
      have B1 : ∀ o : Obj, (wr.alloc o).cell? ⟨g, j * 3 + 1, none⟩ = some (.float .f64 y) := fun o => (World.cell?_alloc_lt wr o ⟨g, j * 3 + 1, none⟩ hgl).trans k1
      have C1 : ∀ o : Obj, (wr.alloc o).drew.cell? ⟨g, j * 3 + 1, none⟩ = some (.float .f64 y) := fun o => B1 o
      have B2 : ∀ o : Obj, (wr.alloc o).cell? ⟨g, j * 3 + 2, none⟩ = some (.float .f64 z) := fun o => (World.cell?_alloc_lt wr o ⟨g, j * 3 + 2, none⟩ hgl).trans k2
      have C2 : ∀ o : Obj, (wr.alloc o).drew.cell? ⟨g, j * 3 + 2, none⟩ = some (.float .f64 z) := fun o => B2 o
      have H1 := Hd h1
      have HPT := Hd hpt
      clear h1 hpt hc
      generalize hxs : plV (ptsN 1 ns j) = xs at *
      have HX := Hd hxs
      clear hxs
      go_wp2_with fail
      go_region
      go_wp2_with (at_builtin; refine wpList_append_any _ rfl _ _ _ rfl 0 100 i0 (.agg #[.float .f64 0, .float .f64 0, .float .f64 0, .float .f64 0]) 4 32 Tryz.underlying97 hi0 hz0 hz1 hz2 rfl (by decide) _ j xs rfl (by exact World.ownsRow.alloc (own_drew (World.ownsRow.alloc H1.out.own _)) _) _ _ 1 _ [.float .f64 x, .float .f64 y, .float .f64 z, .float .f64 0] rfl (by exact reads_new4 (by simp)) (by simp [Value.oneCell']) (by simp only [maxLen]; omega) (by omega) (Nat.zero_le _) ?_; intro v1 W1 ho hg hp; have h2 := H1.out.step ((only_alloc (only_drew (World.grownBy_alloc wr _ _)) _).trans hg) ho (hp.imp id fun e => ⟨_, e, by simp; omega⟩); clear ho hg hp)
      go_roundw
      case rel =>
        refine ⟨j + 1, by omega, by first | go_num | (congr 1; omega), ?_⟩
        rw [HPT.out, plV_snoc, HX.out]
        exact h2
      case measure => simp [intOf]; omega
    · have hd : decide ((j : Int) * 3 + 3 ≤ n) = false := decide_eq_false (by omega)
      have ej : n / 3 = j := by omega
      go_wp2
      go_ret
      refine ⟨_, rfl, ?_⟩
      rw [ej]
      exact h1

set_option maxRecDepth 100000 in
theorem Places2 (g n c : Nat) (A : Option Addr) (ns : List Nat) (w : World) (hA : 0 < n → A = some ⟨g, 0, none⟩ ∧ ∀ j, j < n → w.cell? ⟨g, j, none⟩ = some (.float .f64 (ns.getD j 0))) (hl : n ≤ 1000000000) :
    Calls Tryz.prog 55 #[.slice A n c, .int .i64 2] w fun e w' => ∃ v, e = .returned v ∧ Rn 100 4 w w' none v (n / 3) (plV (ptsN 2 ns (n / 3))) := by
  have hw2 : wd 2 = 3 := by simp [wd]
  have e1 := i64_and1' 2
  have e2 := i64_and2' 2
  simp at e1 e2
  obtain ⟨i0, hi0, hz0, hz1, hz2⟩ := info_parts info_place
  have HA := Hd hA
  clear hA
  go_enter Tryz.func55, Tryz.ntmps55
  go_wp2_with fail
  refine (Width_any 2 (by omega) (by omega) _).mono ?_
  rintro e w1 ⟨rfl, rfl⟩
  rw [hw2]
  go_wp2_with fail
  go_loopw [5, 7] (fun u i wr => ∃ j : Nat, j * 3 ≤ n ∧ i = .int .i64 ((j : Int) * 3) ∧ Rn 100 4 w1 wr none u j (plV (ptsN 2 ns j))) (fun _ i _ => n - (intOf i).toNat)
  case atStart => exact ⟨0, by omega, rfl, Rn.nil _ _ _⟩
  case round =>
    obtain ⟨j, hj, rfl, h1⟩ := hrel
    by_cases hlt : (j + 1) * 3 ≤ n
    · obtain ⟨rfl, hc⟩ := HA.out (by omega)
      have hd : decide ((j : Int) * 3 + 3 ≤ n) = true := decide_eq_true (by omega)
      have k0 := (h1.below0.cell (World.block_lt_of_cell? w1 _ (hc (j * 3) (by omega)))).trans (hc (j * 3) (by omega))
      have k1 := (h1.below0.cell (World.block_lt_of_cell? w1 _ (hc (j * 3 + 1) (by omega)))).trans (hc (j * 3 + 1) (by omega))
      have k2 := (h1.below0.cell (World.block_lt_of_cell? w1 _ (hc (j * 3 + 2) (by omega)))).trans (hc (j * 3 + 2) (by omega))
      have hgl := World.block_lt_of_cell? wr _ k0
      simp only at hgl
      have hpt : ptsN 2 ns (j + 1) = ptsN 2 ns j ++ [(ns.getD (j * 3) 0, ns.getD (j * 3 + 1) 0, 0, ns.getD (j * 3 + 2) 0)] := by
        rw [ptsN_succ]
        simp [ptN, hw2]
      generalize ns.getD (j * 3) 0 = x at *
      generalize ns.getD (j * 3 + 1) 0 = y at *
      generalize ns.getD (j * 3 + 2) 0 = m at *
      have B0 : ∀ o : Obj, (wr.alloc o).cell? ⟨g, j * 3, none⟩ = some (.float .f64 x) := fun o => (World.cell?_alloc_lt wr o ⟨g, j * 3, none⟩ hgl).trans k0
      have C0 : ∀ o : Obj, (wr.alloc o).drew.cell? ⟨g, j * 3, none⟩ = some (.float .f64 x) := fun o => B0 o
      have B1 : ∀ o : Obj, (wr.alloc o).cell? ⟨g, j * 3 + 1, none⟩ = some (.float .f64 y) := fun o => (World.cell?_alloc_lt wr o ⟨g, j * 3 + 1, none⟩ hgl).trans k1
      have C1 : ∀ o : Obj, (wr.alloc o).drew.cell? ⟨g, j * 3 + 1, none⟩ = some (.float .f64 y) := fun o => B1 o
      have B2 : ∀ o : Obj, (wr.alloc o).cell? ⟨g, j * 3 + 2, none⟩ = some (.float .f64 m) := fun o => (World.cell?_alloc_lt wr o ⟨g, j * 3 + 2, none⟩ hgl).trans k2
      have C2 : ∀ o : Obj, (wr.alloc o).drew.cell? ⟨g, j * 3 + 2, none⟩ = some (.float .f64 m) := fun o => B2 o
      have H1 := Hd h1
      have HPT := Hd hpt
      clear h1 hpt hc
      generalize hxs : plV (ptsN 2 ns j) = xs at *
      have HX := Hd hxs
      clear hxs
      go_wp2_with fail
      go_region
      go_wp2_with (at_builtin; refine wpList_append_any _ rfl _ _ _ rfl 0 100 i0 (.agg #[.float .f64 0, .float .f64 0, .float .f64 0, .float .f64 0]) 4 32 Tryz.underlying97 hi0 hz0 hz1 hz2 rfl (by decide) _ j xs rfl (by exact World.ownsRow.alloc (own_drew (World.ownsRow.alloc H1.out.own _)) _) _ _ 1 _ [.float .f64 x, .float .f64 y, .float .f64 0, .float .f64 m] rfl (by exact reads_new4 (by simp)) (by simp [Value.oneCell']) (by simp only [maxLen]; omega) (by omega) (Nat.zero_le _) ?_; intro v1 W1 ho hg hp; have h2 := H1.out.step ((only_alloc (only_drew (World.grownBy_alloc wr _ _)) _).trans hg) ho (hp.imp id fun e => ⟨_, e, by simp; omega⟩); clear ho hg hp)
      go_roundw
      case rel =>
        refine ⟨j + 1, by omega, by first | go_num | (congr 1; omega), ?_⟩
        rw [HPT.out, plV_snoc, HX.out]
        exact h2
      case measure => simp [intOf]; omega
    · have hd : decide ((j : Int) * 3 + 3 ≤ n) = false := decide_eq_false (by omega)
      have ej : n / 3 = j := by omega
      go_wp2
      go_ret
      refine ⟨_, rfl, ?_⟩
      rw [ej]
      exact h1

set_option maxRecDepth 100000 in
theorem Places3 (g n c : Nat) (A : Option Addr) (ns : List Nat) (w : World) (hA : 0 < n → A = some ⟨g, 0, none⟩ ∧ ∀ j, j < n → w.cell? ⟨g, j, none⟩ = some (.float .f64 (ns.getD j 0))) (hl : n ≤ 1000000000) :
    Calls Tryz.prog 55 #[.slice A n c, .int .i64 3] w fun e w' => ∃ v, e = .returned v ∧ Rn 100 4 w w' none v (n / 4) (plV (ptsN 3 ns (n / 4))) := by
  have hw2 : wd 3 = 4 := by simp [wd]
  have e1 := i64_and1' 3
  have e2 := i64_and2' 3
  simp at e1 e2
  obtain ⟨i0, hi0, hz0, hz1, hz2⟩ := info_parts info_place
  have HA := Hd hA
  clear hA
  go_enter Tryz.func55, Tryz.ntmps55
  go_wp2_with fail
  refine (Width_any 3 (by omega) (by omega) _).mono ?_
  rintro e w1 ⟨rfl, rfl⟩
  rw [hw2]
  go_wp2_with fail
  go_loopw [5, 7] (fun u i wr => ∃ j : Nat, j * 4 ≤ n ∧ i = .int .i64 ((j : Int) * 4) ∧ Rn 100 4 w1 wr none u j (plV (ptsN 3 ns j))) (fun _ i _ => n - (intOf i).toNat)
  case atStart => exact ⟨0, by omega, rfl, Rn.nil _ _ _⟩
  case round =>
    obtain ⟨j, hj, rfl, h1⟩ := hrel
    by_cases hlt : (j + 1) * 4 ≤ n
    · obtain ⟨rfl, hc⟩ := HA.out (by omega)
      have hd : decide ((j : Int) * 4 + 4 ≤ n) = true := decide_eq_true (by omega)
      have k0 := (h1.below0.cell (World.block_lt_of_cell? w1 _ (hc (j * 4) (by omega)))).trans (hc (j * 4) (by omega))
      have k1 := (h1.below0.cell (World.block_lt_of_cell? w1 _ (hc (j * 4 + 1) (by omega)))).trans (hc (j * 4 + 1) (by omega))
      have k2 := (h1.below0.cell (World.block_lt_of_cell? w1 _ (hc (j * 4 + 2) (by omega)))).trans (hc (j * 4 + 2) (by omega))
      have k3 := (h1.below0.cell (World.block_lt_of_cell? w1 _ (hc (j * 4 + 3) (by omega)))).trans (hc (j * 4 + 3) (by omega))
      have hgl := World.block_lt_of_cell? wr _ k0
      simp only at hgl
      have hpt : ptsN 3 ns (j + 1) = ptsN 3 ns j ++ [(ns.getD (j * 4) 0, ns.getD (j * 4 + 1) 0, ns.getD (j * 4 + 2) 0, ns.getD (j * 4 + 3) 0)] := by
        rw [ptsN_succ]
        simp [ptN, hw2]
      generalize ns.getD (j * 4) 0 = x at *
      generalize ns.getD (j * 4 + 1) 0 = y at *
      generalize ns.getD (j * 4 + 2) 0 = z at *
      generalize ns.getD (j * 4 + 3) 0 = m at *
      have B0 : ∀ o : Obj, (wr.alloc o).cell? ⟨g, j * 4, none⟩ = some (.float .f64 x) := fun o => (World.cell?_alloc_lt wr o ⟨g, j * 4, none⟩ hgl).trans k0
      have C0 : ∀ o : Obj, (wr.alloc o).drew.cell? ⟨g, j * 4, none⟩ = some (.float .f64 x) := fun o => B0 o
      have B1 : ∀ o : Obj, (wr.alloc o).cell? ⟨g, j * 4 + 1, none⟩ = some (.float .f64 y) := fun o => (World.cell?_alloc_lt wr o ⟨g, j * 4 + 1, none⟩ hgl).trans k1
      have C1 : ∀ o : Obj, (wr.alloc o).drew.cell? ⟨g, j * 4 + 1, none⟩ = some (.float .f64 y) := fun o => B1 o
      have B2 : ∀ o : Obj, (wr.alloc o).cell? ⟨g, j * 4 + 2, none⟩ = some (.float .f64 z) := fun o => (World.cell?_alloc_lt wr o ⟨g, j * 4 + 2, none⟩ hgl).trans k2
      have C2 : ∀ o : Obj, (wr.alloc o).drew.cell? ⟨g, j * 4 + 2, none⟩ = some (.float .f64 z) := fun o => B2 o
      have B3 : ∀ o : Obj, (wr.alloc o).cell? ⟨g, j * 4 + 3, none⟩ = some (.float .f64 m) := fun o => (World.cell?_alloc_lt wr o ⟨g, j * 4 + 3, none⟩ hgl).trans k3
      have C3 : ∀ o : Obj, (wr.alloc o).drew.cell? ⟨g, j * 4 + 3, none⟩ = some (.float .f64 m) := fun o => B3 o
      have H1 := Hd h1
      have HPT := Hd hpt
      clear h1 hpt hc
      generalize hxs : plV (ptsN 3 ns j) = xs at *
      have HX := Hd hxs
      clear hxs
      go_wp2_with fail
      go_region
      go_wp2_with (at_builtin; refine wpList_append_any _ rfl _ _ _ rfl 0 100 i0 (.agg #[.float .f64 0, .float .f64 0, .float .f64 0, .float .f64 0]) 4 32 Tryz.underlying97 hi0 hz0 hz1 hz2 rfl (by decide) _ j xs rfl (by exact World.ownsRow.alloc (own_drew (World.ownsRow.alloc H1.out.own _)) _) _ _ 1 _ [.float .f64 x, .float .f64 y, .float .f64 z, .float .f64 m] rfl (by exact reads_new4 (by simp)) (by simp [Value.oneCell']) (by simp only [maxLen]; omega) (by omega) (Nat.zero_le _) ?_; intro v1 W1 ho hg hp; have h2 := H1.out.step ((only_alloc (only_drew (World.grownBy_alloc wr _ _)) _).trans hg) ho (hp.imp id fun e => ⟨_, e, by simp; omega⟩); clear ho hg hp)
      go_roundw
      case rel =>
        refine ⟨j + 1, by omega, by first | go_num | (congr 1; omega), ?_⟩
        rw [HPT.out, plV_snoc, HX.out]
        exact h2
      case measure => simp [intOf]; omega
    · have hd : decide ((j : Int) * 4 + 4 ≤ n) = false := decide_eq_false (by omega)
      have ej : n / 4 = j := by omega
      go_wp2
      go_ret
      refine ⟨_, rfl, ?_⟩
      rw [ej]
      exact h1

theorem Places_any (q : Int) (q0 : 0 ≤ q) (q1 : q ≤ 3) (g n c : Nat) (A : Option Addr) (ns : List Nat) (w : World) (hA : 0 < n → A = some ⟨g, 0, none⟩ ∧ ∀ j, j < n → w.cell? ⟨g, j, none⟩ = some (.float .f64 (ns.getD j 0))) (hl : n ≤ 1000000000) :
    Calls Tryz.prog 55 #[.slice A n c, .int .i64 q] w fun e w' => ∃ v, e = .returned v ∧ Rn 100 4 w w' none v (n / wd q) (plV (ptsN q ns (n / wd q))) := by
  rcases wd_cases q q0 q1 with ⟨rfl, h⟩ | ⟨rfl, h⟩ | ⟨rfl, h⟩ | ⟨rfl, h⟩ <;> rw [h]
  · exact Places0 g n c A ns w hA hl
  · exact Places1 g n c A ns w hA hl
  · exact Places2 g n c A ns w hA hl
  · exact Places3 g n c A ns w hA hl

end Go.Proofs.YtofdccmmagcamaaGreatDoor

/- The reference's own geometry of a point, and its GeoJSON. -/
set_option maxHeartbeats 8000000
set_option linter.unusedSimpArgs false
set_option linter.unusedVariables false
namespace Go.Proofs.YtofdccmmagcamaaGreatDoor
open Go.RowKit

attribute [local go_sem] run_store_float

theorem Leaf1_any (w : World) : Calls Tryz.prog 33 #[.int .i64 1] w fun e w' => e = .returned (.bool true) ∧ w' = w := by
  go_enter Tryz.func33, Tryz.ntmps33
  go_wp2
  go_ret
  exact ⟨rfl, rfl⟩

theorem four_cells {w : World} {g T : Nat} {a0 a1 a2 a3 : Value} (h : Blk w g T #[a0, a1, a2, a3]) (b0 b1 b2 b3 : Value) :
    (w.setCell ⟨g, 0, none⟩ b0).cell? ⟨g, 0, none⟩ = some b0 ∧
    ((w.setCell ⟨g, 0, none⟩ b0).setCell ⟨g, 1, none⟩ b1).cell? ⟨g, 1, none⟩ = some b1 ∧
    (((w.setCell ⟨g, 0, none⟩ b0).setCell ⟨g, 1, none⟩ b1).setCell ⟨g, 2, none⟩ b2).cell? ⟨g, 2, none⟩ = some b2 ∧
    ((((w.setCell ⟨g, 0, none⟩ b0).setCell ⟨g, 1, none⟩ b1).setCell ⟨g, 2, none⟩ b2).setCell ⟨g, 3, none⟩ b3).cell? ⟨g, 3, none⟩ = some b3 := by
  have k0 := h.set_ 0 b0
  have k1 := k0.set_ 1 b1
  have k2 := k1.set_ 2 b2
  have k3 := k2.set_ 3 b3
  refine ⟨?_, ?_, ?_, ?_⟩
  · simpa using k0.cell 0
  · simpa using k1.cell 1
  · simpa using k2.cell 2
  · simpa using k3.cell 3
theorem own_set {w : World} {e : TypeId} {n : Nat} {v : Value} {xs : List Value} {p : Addr} (h : w.ownsRow 0 e 1 v n xs) (hp : v.ownBlock = none ∨ v.ownBlock ≠ some p.block) (u : Value) : (w.setCell p u).ownsRow 0 e 1 v n xs :=
  h.kept (only_setCell (World.grownBy.refl w (some p.block)) (.inl rfl) u) hp

theorem own_shape {w : World} {b sz n : Nat} {e : TypeId} {v : Value} {xs : List Value} (h : w.ownsRow b e sz v (0 + n) xs) : ∃ A c, v = .slice A n c := by
  rw [Nat.zero_add] at h
  rcases h.2 with ⟨rfl, h0⟩ | ⟨g, cap, cur, rfl, _⟩
  · rw [h0]; exact ⟨none, 0, rfl⟩
  · exact ⟨_, cap, rfl⟩
theorem Reads.take {w : World} {B n k : Nat} {A : Option Addr} {ns : List Nat} (h : Reads w B 1 A n (flV ns)) (hk : k ≤ n) : Reads w B 1 A k (flV (ns.take k)) := by
  have hl : ns.length = n := by have := h.1; rw [flV_length] at this; omega
  refine ⟨by rw [flV_length, List.length_take]; omega, fun h0 => ?_⟩
  obtain ⟨ad, e, hb, hc⟩ := h.2 (by omega)
  refine ⟨ad, e, hb, fun j u hu => hc j u ?_⟩
  unfold flV at hu ⊢
  rw [List.getElem?_map, List.getElem?_take] at hu
  split at hu
  · rw [List.getElem?_map]; exact hu
  · simp at hu

/-- How many numbers of a point count. -/
def cutN (d : Int) (n : Nat) : Nat := if wd (d % 4) ≤ n then wd (d % 4) else 0

set_option maxRecDepth 100000 in
theorem New_point {B : Nat} {A K : Option Addr} {n m c c' : Nat} {ns : List Nat} (d : Int) (w : World) (h : Reads w B 1 A n (flV ns)) (hc : n ≤ c) (hB : B ≤ w.heap.size) (hn : n ≤ 1000000000) :
    Calls Tryz.prog 12 #[.agg #[.int .i64 1, .int .i64 d, .slice A n c, .slice K m c']] w fun e w' =>
      ∃ v, e = .returned (.agg #[.int .i64 1, .int .i64 (d % 4), v, .slice none 0 0]) ∧ Rw 73 w w' none v (flV (ns.take (cutN d n))) := by
  have hnl : ns.length = n := by have := h.1; rw [flV_length] at this; omega
  have q0 : 0 ≤ d % 4 := by omega
  have q1 : d % 4 ≤ 3 := by omega
  have hwp : 2 ≤ wd (d % 4) ∧ wd (d % 4) ≤ 4 := by rcases wd_cases (d % 4) q0 q1 with ⟨_, h⟩ | ⟨_, h⟩ | ⟨_, h⟩ | ⟨_, h⟩ <;> rw [h] <;> omega
  have h3 := i64_and3 d
  have hwd := Width_any (d % 4) q0 q1
  have hcut : cutN d n = if wd (d % 4) ≤ n then wd (d % 4) else 0 := rfl
  generalize d % 4 = q at *
  have hr1 : n / wd q = 0 → ¬ wd q ≤ n := fun he => by
    have := Nat.lt_of_div_eq_zero (by omega) he
    omega
  have hr2 : n / wd q ≠ 0 → wd q ≤ n := fun hne => by
    have h1 := Nat.div_add_mod n (wd q)
    have h3 : wd q * 1 ≤ wd q * (n / wd q) := Nat.mul_le_mul_left _ (Nat.pos_of_ne_zero hne)
    omega
  have hle : n / wd q ≤ n := Nat.div_le_self _ _
  have hcv : (n : Int) / (wd q : Int) = ((n / wd q : Nat) : Int) := (Int.natCast_ediv n (wd q)).symm
  have hne0 : ((wd q : Int) == 0) = false := by rw [beq_eq_false_iff_ne]; omega
  generalize wd q = W at *
  have hb0 : 0 ≤ (n : Int) / (W : Int) ∧ (n : Int) / (W : Int) ≤ 1000000000 := by rw [hcv]; exact ⟨Int.natCast_nonneg _, by omega⟩
  obtain ⟨i0, hi0, hz0, hz1, hz2⟩ := info_parts info_f64
  have H := Hd h
  have HNL := Hd hnl
  have HWD := Hd hwd
  have HCUT := Hd hcut
  have HR1 := Hd hr1
  have HR2 := Hd hr2
  have HCV := Hd hcv
  clear h hnl hwd hcut hr1 hr2 hcv
  go_enter Tryz.func12, Tryz.ntmps12
  go_wp2_with fail
  refine (Leaf1_any _).mono ?_
  rintro e w1 ⟨rfl, rfl⟩
  go_wp2
  go_quiet ((go_at_call 34; exact Calls.quiet_of_same (HWD.out _)))
  go_wp2
  obtain ⟨rr, hrr, hr1, hkn, hmul⟩ : ∃ rr : Nat, min ((n : Int) / (W : Int)) 1 = (rr : Int) ∧ rr ≤ 1 ∧ cutN d n ≤ n ∧ (rr : Int) * (W : Int) = (cutN d n : Int) := by
    rw [HCV.out, HCUT.out]
    by_cases h0 : n / W = 0
    · exact ⟨0, by rw [h0]; rfl, by omega, by rw [if_neg (HR1.out h0)]; omega, by rw [if_neg (HR1.out h0)]; simp⟩
    · have := Nat.pos_of_ne_zero h0
      refine ⟨1, ?_, Nat.le_refl _, by rw [if_pos (HR2.out h0)]; exact HR2.out h0, by rw [if_pos (HR2.out h0)]; simp⟩
      generalize n / W = r at *
      omega
  rw [hrr]
  generalize hkk : cutN d n = kk at *
  have hwk : IntKind.i64.wrap (kk : Int) = (kk : Int) := by rw [IntKind.wrap_i64]; omega
  have hkc : kk ≤ c := by omega
  have HKK := Hd hkk
  have HTK := Hd (H.out.take hkn)
  clear hkk hrr
  have hb1 := ((((Below.refl w.heap.size w).alloc (Nat.le_refl _) (.cells #[.int .i64 1, .int .i64 d, .slice A n c, .slice K m c'] 25)).alloc (by simp) (.cells #[.int .i64 0, .int .i64 0, .slice none 0 0, .slice none 0 0] 25)).alloc (by simp; omega) (.cells #[.int .i64 1, .int .i64 q, .slice none 0 0, .slice none 0 0] 25))
  have HB1 := Hd hb1
  clear hb1
  refine wp_region_still_tail 10 (by kernel_rfl) (by kernel_rfl) ?_
  simp only [List.take_succ_cons, List.take_zero, List.drop_succ_cons, List.drop_zero]
  change wpStill _ _ (World.drew _) _ _ _
  repeat still_step
  still_call (HWD.out _)
  still_step
  still_step
  refine wpStill_nil ?_
  change wpList _ _ _ _ _ (World.drew _)
  refine wpList_append_any _ rfl _ _ _ rfl 0 73 i0 (.float .f64 0) 1 8 Tryz.underlying22 hi0 hz0 hz1 hz2 rfl (by decide) _ 0 [] rfl (World.ownsRow_nil _ _ _ _) B _ kk _ (flV (ns.take kk)) rfl (by exact HTK.out.below (Below.drew (below_drewN (HB1.out.mono hB) _))) (flV_one _) (by simp only [maxLen]; omega) (by omega) (Nat.zero_le _) ?_
  intro v1 W1 ho hg hp
  have hg' : World.grownBy _ W1 none := hg
  have b2 := Blk.grown (Blk.drew (Blk.drewN (Blk.new ((w.alloc (.cells #[.int .i64 1, .int .i64 d, .slice A n c, .slice K m c'] 25)).alloc (.cells #[.int .i64 0, .int .i64 0, .slice none 0 0, .slice none 0 0] 25)) 25 #[.int .i64 1, .int .i64 q, .slice none 0 0, .slice none 0 0]) _)) hg' (by simp)
  have b1 := Blk.grown (Blk.drew (Blk.drewN (Blk.alloc (Blk.new (w.alloc (.cells #[.int .i64 1, .int .i64 d, .slice A n c, .slice K m c'] 25)) 25 #[.int .i64 0, .int .i64 0, .slice none 0 0, .slice none 0 0]) _) _)) hg' (by simp)
  rw [World.size_alloc, World.size_alloc] at b2
  rw [World.size_alloc] at b1
  have hbw : Below w.heap.size w W1 := (Below.drew (below_drewN HB1.out _)).trans ⟨hg'.os, hg'.tape, hg'.output, hg'.size, fun i hi => hg'.block i (Nat.lt_of_lt_of_le hi (Below.drew (below_drewN HB1.out _)).size) (by simp)⟩
  obtain ⟨A1, c1, rfl⟩ := own_shape ho
  have hp' : (Value.slice A1 kk c1).ownBlock = none ∨ ∃ g, (Value.slice A1 kk c1).ownBlock = some g ∧ w.heap.size + 3 ≤ g := hp.imp (fun e => e) (fun e => ⟨_, e, by simp⟩)
  have hne1 : (Value.slice A1 kk c1).ownBlock = none ∨ (Value.slice A1 kk c1).ownBlock ≠ some (w.heap.size + 1) := hp'.imp id fun ⟨g, e, hl⟩ he => by rw [e] at he; injection he with he; omega
  have hne2 : (Value.slice A1 kk c1).ownBlock = none ∨ (Value.slice A1 kk c1).ownBlock ≠ some (w.heap.size + 1 + 1) := hp'.imp id fun ⟨g, e, hl⟩ he => by rw [e] at he; injection he with he; omega
  have hpl : (Value.slice A1 kk c1).ownBlock = none ∨ ∃ g, (Value.slice A1 kk c1).ownBlock = some g ∧ w.heap.size ≤ g := hp'.imp id fun ⟨g, e, hl⟩ => ⟨g, e, by omega⟩
  rw [Nat.zero_add, List.nil_append] at ho
  have u2 : (W1.setCell ⟨w.heap.size + 1 + 1, 2, none⟩ (.slice A1 kk c1)).cell? ⟨w.heap.size + 1 + 1, 2, none⟩ = some (.slice A1 kk c1) := by simpa using (b2.set_ 2 (.slice A1 kk c1)).cell 2
  obtain ⟨t0, t1, t2, t3⟩ := four_cells (b1.far (p := ⟨w.heap.size + 1 + 1, 2, none⟩) (by simp) (.slice A1 kk c1)) (.int .i64 1) (.int .i64 q) (.slice A1 kk c1) (.slice none 0 0)
  have r0 := b2.cell 0
  have r1 := b2.cell 1
  have r2 := b2.cell 2
  have r3 := b2.cell 3
  have s0 := b1.cell 0
  have s1 := b1.cell 1
  have s2 := b1.cell 2
  have s3 := b1.cell 3
  have z2 := b2.frozen 2
  have y0 := b1.frozen 0
  have y1 := b1.frozen 1
  have y2 := b1.frozen 2
  have y3 := b1.frozen 3
  simp at r0 r1 r2 r3 s0 s1 s2 s3
  have HO := Hd ho
  have HBW := Hd hbw
  have HPL := Hd hpl
  have HN1 := Hd hne1
  have HN2 := Hd hne2
  clear ho hbw hpl hne1 hne2 hp hp' hg hg' b1 b2
  go_wp2
  refine bodyPost_ret (by simp [results, Tryz.results12, go_sem, t0, t1, t2, t3]; try rfl) rfl ?_
  have hb := below_setCell' (below_setCell' (below_setCell' (below_setCell' (below_setCell' HBW.out (p := ⟨w.heap.size + 1 + 1, 2, none⟩) (by show w.heap.size ≤ w.heap.size + 1 + 1; omega) (.slice A1 kk c1)) (p := ⟨w.heap.size + 1, 0, none⟩) (Nat.le_succ _) (.int .i64 1)) (p := ⟨w.heap.size + 1, 1, none⟩) (Nat.le_succ _) (.int .i64 q)) (p := ⟨w.heap.size + 1, 2, none⟩) (Nat.le_succ _) (.slice A1 kk c1)) (p := ⟨w.heap.size + 1, 3, none⟩) (Nat.le_succ _) (.slice none 0 0)
  refine ⟨_, rfl, ?_⟩
  rw [HKK.out]
  have hfk : (flV (ns.take kk)).length = kk := by rw [flV_length, List.length_take, HNL.out]; omega
  refine ⟨?_, only_of_below hb none, HPL.out⟩
  rw [hfk]
  exact own_set (own_set (own_set (own_set (own_set HO.out HN2.out _) HN1.out _) HN1.out _) HN1.out _) HN1.out _

end Go.Proofs.YtofdccmmagcamaaGreatDoor
