/- The places of a leaf: spec.Places, under each type of coordinates (printed by gen_places.py). -/
import Derived.Test.YtpbcfgehmalppaaGreatDoorJsG
import Derived.BigRegion
namespace Go.Proofs.YtpbcfgehmalppaaGreatDoor
open Go.RowKit

attribute [local go_sem] run_store_float

/-- The row v of elements of type e, sz cells each, holds n of them, with the cells xs, in world W; since w0 only the block 'row' and what is new have turned. -/
structure Rn (e : TypeId) (sz : Nat) (w0 W : World) (row : Option Nat) (v : Value) (n : Nat) (xs : List Value) : Prop where
  own : W.ownsRow 0 e sz v n xs
  grown : w0.grownBy W row
  place : v.ownBlock = row ∨ ∃ g, v.ownBlock = some g ∧ w0.heap.size ≤ g
theorem Rn.nil (e : TypeId) (sz : Nat) (w : World) : Rn e sz w w none (.slice none 0 0) 0 [] := ⟨World.ownsRow_nil _ _ _ _, World.grownBy.refl w _, .inl rfl⟩
theorem Rn.step {e : TypeId} {sz : Nat} {w0 W W1 : World} {row : Option Nat} {v v1 : Value} {n n1 : Nat} {xs xs1 : List Value} (h : Rn e sz w0 W row v n xs) (hg : W.grownBy W1 v.ownBlock) (ho : W1.ownsRow 0 e sz v1 n1 xs1)
    (hp : v1.ownBlock = v.ownBlock ∨ ∃ g, v1.ownBlock = some g ∧ W.heap.size ≤ g) : Rn e sz w0 W1 row v1 n1 xs1 := by
  have hgr : w0.grownBy W1 row := ⟨hg.os.trans h.grown.os, hg.tape.trans h.grown.tape, hg.output.trans h.grown.output, Nat.le_trans h.grown.size hg.size, fun k hk hne => by
    refine (hg.block k (Nat.lt_of_lt_of_le hk h.grown.size) ?_).trans (h.grown.block k hk hne)
    intro e
    rcases h.place with hp | ⟨g, hp, hl⟩
    · exact hne (e.trans hp)
    · rw [hp] at e
      injection e with e
      omega⟩
  refine ⟨ho, hgr, ?_⟩
  rcases hp with hp | ⟨g, hp, hl⟩
  · rw [hp]; exact h.place
  · exact .inr ⟨g, hp, Nat.le_trans h.grown.size hl⟩
theorem Rn.below0 {e : TypeId} {sz : Nat} {w0 W : World} {v : Value} {n : Nat} {xs : List Value} (h : Rn e sz w0 W none v n xs) : Below w0.heap.size w0 W := ⟨h.grown.os, h.grown.tape, h.grown.output, h.grown.size, fun i hi => h.grown.block i hi (by simp)⟩

/-- The cells of places. -/
def plV (ps : List Pl) : List Value := ps.flatMap fun p => [.float .f64 p.1, .float .f64 p.2.1, .float .f64 p.2.2.1, .float .f64 p.2.2.2]
theorem plV_snoc (ps : List Pl) (p : Pl) : plV (ps ++ [p]) = plV ps ++ [.float .f64 p.1, .float .f64 p.2.1, .float .f64 p.2.2.1, .float .f64 p.2.2.2] := by simp [plV]
/-- The first k places of numbers under a type. -/
def ptsN (q : Int) (ns : List Nat) (k : Nat) : List Pl := (List.range k).map (ptN q ns)
theorem ptsN_succ (q : Int) (ns : List Nat) (k : Nat) : ptsN q ns (k + 1) = ptsN q ns k ++ [ptN q ns k] := by simp [ptsN, List.range_succ]
theorem ptsN_length (q : Int) (ns : List Nat) (k : Nat) : (ptsN q ns k).length = k := by simp [ptsN]

theorem own_drew {w : World} {b sz n : Nat} {e : TypeId} {v : Value} {xs : List Value} (h : w.ownsRow b e sz v n xs) : w.drew.ownsRow b e sz v n xs := h
theorem reads_new4 {w : World} {t g : Nat} {a b c d : Value} (hg : g = w.heap.size) : Reads (w.alloc (.cells #[a, b, c, d] t)) (w.heap.size + 1) 4 (some ⟨g, 0, none⟩) 1 [a, b, c, d] := by
  subst hg
  have h := Blk.new w t #[a, b, c, d]
  refine ⟨rfl, fun _ => ⟨_, rfl, Nat.lt_succ_self _, fun j u hu => ?_⟩⟩
  have ha : (⟨w.heap.size, 0, none⟩ : Addr).add j = ⟨w.heap.size, j, none⟩ := by unfold Addr.add; split <;> simp_all
  rw [ha, h.cell j]
  simpa using hu

theorem info_place : (Tryz.prog.info? 88).map (fun i => (i.zero, i.size, i.bytes)) = some (some (.agg #[.float .f64 0, .float .f64 0, .float .f64 0, .float .f64 0]), 4, 32) := by kernel_rfl

set_option maxHeartbeats 8000000 in
set_option maxRecDepth 100000 in
theorem Places0 (g n c : Nat) (A : Option Addr) (ns : List Nat) (w : World) (hA : 0 < n → A = some ⟨g, 0, none⟩ ∧ ∀ j, j < n → w.cell? ⟨g, j, none⟩ = some (.float .f64 (ns.getD j 0))) (hl : n ≤ 1000000000) :
    Calls Tryz.prog 58 #[.slice A n c, .int .i64 0] w fun e w' => ∃ v, e = .returned v ∧ Rn 88 4 w w' none v (n / 2) (plV (ptsN 0 ns (n / 2))) := by
  have hw2 : wd 0 = 2 := by simp [wd]
  have e1 := i64_and1' 0
  have e2 := i64_and2' 0
  simp at e1 e2
  obtain ⟨i0, hi0, hz0, hz1, hz2⟩ := info_parts info_place
  have HA := Lib.hid hA
  clear hA
  go_enter Tryz.func58, Tryz.ntmps58
  go_wp2_with fail
  refine (Width_any 0 (by omega) (by omega) _).mono ?_
  rintro e w1 ⟨rfl, rfl⟩
  rw [hw2]
  go_wp2_with fail
  go_loopw [5, 7] (fun u i wr => ∃ j : Nat, j * 2 ≤ n ∧ i = .int .i64 ((j : Int) * 2) ∧ Rn 88 4 w1 wr none u j (plV (ptsN 0 ns j))) (fun _ i _ => n - (intOf i).toNat)
  case atStart => exact ⟨0, by omega, rfl, Rn.nil _ _ _⟩
  case round =>
    obtain ⟨j, hj, rfl, h1⟩ := hrel
    by_cases hlt : (j + 1) * 2 ≤ n
    · obtain ⟨rfl, hc⟩ := HA.out (by omega)
      have hd : decide ((j : Int) * 2 + 2 ≤ n) = true := decide_eq_true (by omega)
      have k0 := (h1.below0.cell (World.block_lt_of_cell? w1 _ (hc (j * 2) (by omega)))).trans (hc (j * 2) (by omega))
      have k1 := (h1.below0.cell (World.block_lt_of_cell? w1 _ (hc (j * 2 + 1) (by omega)))).trans (hc (j * 2 + 1) (by omega))
      have hgl := World.block_lt_of_cell? wr _ k0
      simp only at hgl
      have hpt : ptsN 0 ns (j + 1) = ptsN 0 ns j ++ [(ns.getD (j * 2) 0, ns.getD (j * 2 + 1) 0, 0, 0)] := by
        rw [ptsN_succ]
        simp [ptN, hw2]
      generalize ns.getD (j * 2) 0 = x at *
      generalize ns.getD (j * 2 + 1) 0 = y at *
      have B0 : ∀ o : Obj, (wr.alloc o).cell? ⟨g, j * 2, none⟩ = some (.float .f64 x) := fun o => (World.cell?_alloc_lt wr o ⟨g, j * 2, none⟩ hgl).trans k0
      have C0 : ∀ o : Obj, (wr.alloc o).drew.cell? ⟨g, j * 2, none⟩ = some (.float .f64 x) := fun o => B0 o
      have B1 : ∀ o : Obj, (wr.alloc o).cell? ⟨g, j * 2 + 1, none⟩ = some (.float .f64 y) := fun o => (World.cell?_alloc_lt wr o ⟨g, j * 2 + 1, none⟩ hgl).trans k1
      have C1 : ∀ o : Obj, (wr.alloc o).drew.cell? ⟨g, j * 2 + 1, none⟩ = some (.float .f64 y) := fun o => B1 o
      have H1 := Lib.hid h1
      have HPT := Lib.hid hpt
      clear h1 hpt hc
      generalize hxs : plV (ptsN 0 ns j) = xs at *
      have HX := Lib.hid hxs
      clear hxs
      go_wp2_with fail
      go_region
      go_wp2_with (at_builtin; refine wpList_append_any _ rfl _ _ _ rfl 0 88 i0 (.agg #[.float .f64 0, .float .f64 0, .float .f64 0, .float .f64 0]) 4 32 Tryz.underlying85 hi0 hz0 hz1 hz2 rfl (by decide) _ j xs rfl (by exact World.ownsRow.alloc (own_drew (World.ownsRow.alloc H1.out.own _)) _) _ _ 1 _ [.float .f64 x, .float .f64 y, .float .f64 0, .float .f64 0] rfl (by exact reads_new4 (by simp)) (by simp [Value.oneCell']) (by simp only [maxLen]; omega) (by omega) (Nat.zero_le _) ?_; intro v1 W1 ho hg hp; have h2 := H1.out.step ((only_alloc (only_drew (World.grownBy_alloc wr _ _)) _).trans hg) ho (hp.imp id fun e => ⟨_, e, by simp; omega⟩); clear ho hg hp)
      go_roundw
      case rel =>
        refine ⟨j + 1, by omega, by first | go_num | (congr 1; omega), ?_⟩
        rw [HPT.out, plV_snoc, HX.out]
        exact h2
      case measure => simp [intOf]; omega
    · have hd : decide ((j : Int) * 2 + 2 ≤ n) = false := decide_eq_false (by omega)
      have ej : n / 2 = j := by omega
      go_wp2
      go_ret
      refine ⟨_, rfl, ?_⟩
      rw [ej]
      exact h1

set_option maxHeartbeats 8000000 in
set_option maxRecDepth 100000 in
theorem Places1 (g n c : Nat) (A : Option Addr) (ns : List Nat) (w : World) (hA : 0 < n → A = some ⟨g, 0, none⟩ ∧ ∀ j, j < n → w.cell? ⟨g, j, none⟩ = some (.float .f64 (ns.getD j 0))) (hl : n ≤ 1000000000) :
    Calls Tryz.prog 58 #[.slice A n c, .int .i64 1] w fun e w' => ∃ v, e = .returned v ∧ Rn 88 4 w w' none v (n / 3) (plV (ptsN 1 ns (n / 3))) := by
  have hw2 : wd 1 = 3 := by simp [wd]
  have e1 := i64_and1' 1
  have e2 := i64_and2' 1
  simp at e1 e2
  obtain ⟨i0, hi0, hz0, hz1, hz2⟩ := info_parts info_place
  have HA := Lib.hid hA
  clear hA
  go_enter Tryz.func58, Tryz.ntmps58
  go_wp2_with fail
  refine (Width_any 1 (by omega) (by omega) _).mono ?_
  rintro e w1 ⟨rfl, rfl⟩
  rw [hw2]
  go_wp2_with fail
  go_loopw [5, 7] (fun u i wr => ∃ j : Nat, j * 3 ≤ n ∧ i = .int .i64 ((j : Int) * 3) ∧ Rn 88 4 w1 wr none u j (plV (ptsN 1 ns j))) (fun _ i _ => n - (intOf i).toNat)
  case atStart => exact ⟨0, by omega, rfl, Rn.nil _ _ _⟩
  case round =>
    obtain ⟨j, hj, rfl, h1⟩ := hrel
    by_cases hlt : (j + 1) * 3 ≤ n
    · obtain ⟨rfl, hc⟩ := HA.out (by omega)
      have hd : decide ((j : Int) * 3 + 3 ≤ n) = true := decide_eq_true (by omega)
      have k0 := (h1.below0.cell (World.block_lt_of_cell? w1 _ (hc (j * 3) (by omega)))).trans (hc (j * 3) (by omega))
      have k1 := (h1.below0.cell (World.block_lt_of_cell? w1 _ (hc (j * 3 + 1) (by omega)))).trans (hc (j * 3 + 1) (by omega))
      have k2 := (h1.below0.cell (World.block_lt_of_cell? w1 _ (hc (j * 3 + 2) (by omega)))).trans (hc (j * 3 + 2) (by omega))
      have hgl := World.block_lt_of_cell? wr _ k0
      simp only at hgl
      have hpt : ptsN 1 ns (j + 1) = ptsN 1 ns j ++ [(ns.getD (j * 3) 0, ns.getD (j * 3 + 1) 0, ns.getD (j * 3 + 2) 0, 0)] := by
        rw [ptsN_succ]
        simp [ptN, hw2]
      generalize ns.getD (j * 3) 0 = x at *
      generalize ns.getD (j * 3 + 1) 0 = y at *
      generalize ns.getD (j * 3 + 2) 0 = z at *
      have B0 : ∀ o : Obj, (wr.alloc o).cell? ⟨g, j * 3, none⟩ = some (.float .f64 x) := fun o => (World.cell?_alloc_lt wr o ⟨g, j * 3, none⟩ hgl).trans k0
      have C0 : ∀ o : Obj, (wr.alloc o).drew.cell? ⟨g, j * 3, none⟩ = some (.float .f64 x) := fun o => B0 o
      have B1 : ∀ o : Obj, (wr.alloc o).cell? ⟨g, j * 3 + 1, none⟩ = some (.float .f64 y) := fun o => (World.cell?_alloc_lt wr o ⟨g, j * 3 + 1, none⟩ hgl).trans k1
      have C1 : ∀ o : Obj, (wr.alloc o).drew.cell? ⟨g, j * 3 + 1, none⟩ = some (.float .f64 y) := fun o => B1 o
      have B2 : ∀ o : Obj, (wr.alloc o).cell? ⟨g, j * 3 + 2, none⟩ = some (.float .f64 z) := fun o => (World.cell?_alloc_lt wr o ⟨g, j * 3 + 2, none⟩ hgl).trans k2
      have C2 : ∀ o : Obj, (wr.alloc o).drew.cell? ⟨g, j * 3 + 2, none⟩ = some (.float .f64 z) := fun o => B2 o
      have H1 := Lib.hid h1
      have HPT := Lib.hid hpt
      clear h1 hpt hc
      generalize hxs : plV (ptsN 1 ns j) = xs at *
      have HX := Lib.hid hxs
      clear hxs
      go_wp2_with fail
      go_region
      go_wp2_with (at_builtin; refine wpList_append_any _ rfl _ _ _ rfl 0 88 i0 (.agg #[.float .f64 0, .float .f64 0, .float .f64 0, .float .f64 0]) 4 32 Tryz.underlying85 hi0 hz0 hz1 hz2 rfl (by decide) _ j xs rfl (by exact World.ownsRow.alloc (own_drew (World.ownsRow.alloc H1.out.own _)) _) _ _ 1 _ [.float .f64 x, .float .f64 y, .float .f64 z, .float .f64 0] rfl (by exact reads_new4 (by simp)) (by simp [Value.oneCell']) (by simp only [maxLen]; omega) (by omega) (Nat.zero_le _) ?_; intro v1 W1 ho hg hp; have h2 := H1.out.step ((only_alloc (only_drew (World.grownBy_alloc wr _ _)) _).trans hg) ho (hp.imp id fun e => ⟨_, e, by simp; omega⟩); clear ho hg hp)
      go_roundw
      case rel =>
        refine ⟨j + 1, by omega, by first | go_num | (congr 1; omega), ?_⟩
        rw [HPT.out, plV_snoc, HX.out]
        exact h2
      case measure => simp [intOf]; omega
    · have hd : decide ((j : Int) * 3 + 3 ≤ n) = false := decide_eq_false (by omega)
      have ej : n / 3 = j := by omega
      go_wp2
      go_ret
      refine ⟨_, rfl, ?_⟩
      rw [ej]
      exact h1

set_option maxHeartbeats 8000000 in
set_option maxRecDepth 100000 in
theorem Places2 (g n c : Nat) (A : Option Addr) (ns : List Nat) (w : World) (hA : 0 < n → A = some ⟨g, 0, none⟩ ∧ ∀ j, j < n → w.cell? ⟨g, j, none⟩ = some (.float .f64 (ns.getD j 0))) (hl : n ≤ 1000000000) :
    Calls Tryz.prog 58 #[.slice A n c, .int .i64 2] w fun e w' => ∃ v, e = .returned v ∧ Rn 88 4 w w' none v (n / 3) (plV (ptsN 2 ns (n / 3))) := by
  have hw2 : wd 2 = 3 := by simp [wd]
  have e1 := i64_and1' 2
  have e2 := i64_and2' 2
  simp at e1 e2
  obtain ⟨i0, hi0, hz0, hz1, hz2⟩ := info_parts info_place
  have HA := Lib.hid hA
  clear hA
  go_enter Tryz.func58, Tryz.ntmps58
  go_wp2_with fail
  refine (Width_any 2 (by omega) (by omega) _).mono ?_
  rintro e w1 ⟨rfl, rfl⟩
  rw [hw2]
  go_wp2_with fail
  go_loopw [5, 7] (fun u i wr => ∃ j : Nat, j * 3 ≤ n ∧ i = .int .i64 ((j : Int) * 3) ∧ Rn 88 4 w1 wr none u j (plV (ptsN 2 ns j))) (fun _ i _ => n - (intOf i).toNat)
  case atStart => exact ⟨0, by omega, rfl, Rn.nil _ _ _⟩
  case round =>
    obtain ⟨j, hj, rfl, h1⟩ := hrel
    by_cases hlt : (j + 1) * 3 ≤ n
    · obtain ⟨rfl, hc⟩ := HA.out (by omega)
      have hd : decide ((j : Int) * 3 + 3 ≤ n) = true := decide_eq_true (by omega)
      have k0 := (h1.below0.cell (World.block_lt_of_cell? w1 _ (hc (j * 3) (by omega)))).trans (hc (j * 3) (by omega))
      have k1 := (h1.below0.cell (World.block_lt_of_cell? w1 _ (hc (j * 3 + 1) (by omega)))).trans (hc (j * 3 + 1) (by omega))
      have k2 := (h1.below0.cell (World.block_lt_of_cell? w1 _ (hc (j * 3 + 2) (by omega)))).trans (hc (j * 3 + 2) (by omega))
      have hgl := World.block_lt_of_cell? wr _ k0
      simp only at hgl
      have hpt : ptsN 2 ns (j + 1) = ptsN 2 ns j ++ [(ns.getD (j * 3) 0, ns.getD (j * 3 + 1) 0, 0, ns.getD (j * 3 + 2) 0)] := by
        rw [ptsN_succ]
        simp [ptN, hw2]
      generalize ns.getD (j * 3) 0 = x at *
      generalize ns.getD (j * 3 + 1) 0 = y at *
      generalize ns.getD (j * 3 + 2) 0 = m at *
      have B0 : ∀ o : Obj, (wr.alloc o).cell? ⟨g, j * 3, none⟩ = some (.float .f64 x) := fun o => (World.cell?_alloc_lt wr o ⟨g, j * 3, none⟩ hgl).trans k0
      have C0 : ∀ o : Obj, (wr.alloc o).drew.cell? ⟨g, j * 3, none⟩ = some (.float .f64 x) := fun o => B0 o
      have B1 : ∀ o : Obj, (wr.alloc o).cell? ⟨g, j * 3 + 1, none⟩ = some (.float .f64 y) := fun o => (World.cell?_alloc_lt wr o ⟨g, j * 3 + 1, none⟩ hgl).trans k1
      have C1 : ∀ o : Obj, (wr.alloc o).drew.cell? ⟨g, j * 3 + 1, none⟩ = some (.float .f64 y) := fun o => B1 o
      have B2 : ∀ o : Obj, (wr.alloc o).cell? ⟨g, j * 3 + 2, none⟩ = some (.float .f64 m) := fun o => (World.cell?_alloc_lt wr o ⟨g, j * 3 + 2, none⟩ hgl).trans k2
      have C2 : ∀ o : Obj, (wr.alloc o).drew.cell? ⟨g, j * 3 + 2, none⟩ = some (.float .f64 m) := fun o => B2 o
      have H1 := Lib.hid h1
      have HPT := Lib.hid hpt
      clear h1 hpt hc
      generalize hxs : plV (ptsN 2 ns j) = xs at *
      have HX := Lib.hid hxs
      clear hxs
      go_wp2_with fail
      go_region
      go_wp2_with (at_builtin; refine wpList_append_any _ rfl _ _ _ rfl 0 88 i0 (.agg #[.float .f64 0, .float .f64 0, .float .f64 0, .float .f64 0]) 4 32 Tryz.underlying85 hi0 hz0 hz1 hz2 rfl (by decide) _ j xs rfl (by exact World.ownsRow.alloc (own_drew (World.ownsRow.alloc H1.out.own _)) _) _ _ 1 _ [.float .f64 x, .float .f64 y, .float .f64 0, .float .f64 m] rfl (by exact reads_new4 (by simp)) (by simp [Value.oneCell']) (by simp only [maxLen]; omega) (by omega) (Nat.zero_le _) ?_; intro v1 W1 ho hg hp; have h2 := H1.out.step ((only_alloc (only_drew (World.grownBy_alloc wr _ _)) _).trans hg) ho (hp.imp id fun e => ⟨_, e, by simp; omega⟩); clear ho hg hp)
      go_roundw
      case rel =>
        refine ⟨j + 1, by omega, by first | go_num | (congr 1; omega), ?_⟩
        rw [HPT.out, plV_snoc, HX.out]
        exact h2
      case measure => simp [intOf]; omega
    · have hd : decide ((j : Int) * 3 + 3 ≤ n) = false := decide_eq_false (by omega)
      have ej : n / 3 = j := by omega
      go_wp2
      go_ret
      refine ⟨_, rfl, ?_⟩
      rw [ej]
      exact h1

set_option maxHeartbeats 8000000 in
set_option maxRecDepth 100000 in
theorem Places3 (g n c : Nat) (A : Option Addr) (ns : List Nat) (w : World) (hA : 0 < n → A = some ⟨g, 0, none⟩ ∧ ∀ j, j < n → w.cell? ⟨g, j, none⟩ = some (.float .f64 (ns.getD j 0))) (hl : n ≤ 1000000000) :
    Calls Tryz.prog 58 #[.slice A n c, .int .i64 3] w fun e w' => ∃ v, e = .returned v ∧ Rn 88 4 w w' none v (n / 4) (plV (ptsN 3 ns (n / 4))) := by
  have hw2 : wd 3 = 4 := by simp [wd]
  have e1 := i64_and1' 3
  have e2 := i64_and2' 3
  simp at e1 e2
  obtain ⟨i0, hi0, hz0, hz1, hz2⟩ := info_parts info_place
  have HA := Lib.hid hA
  clear hA
  go_enter Tryz.func58, Tryz.ntmps58
  go_wp2_with fail
  refine (Width_any 3 (by omega) (by omega) _).mono ?_
  rintro e w1 ⟨rfl, rfl⟩
  rw [hw2]
  go_wp2_with fail
  go_loopw [5, 7] (fun u i wr => ∃ j : Nat, j * 4 ≤ n ∧ i = .int .i64 ((j : Int) * 4) ∧ Rn 88 4 w1 wr none u j (plV (ptsN 3 ns j))) (fun _ i _ => n - (intOf i).toNat)
  case atStart => exact ⟨0, by omega, rfl, Rn.nil _ _ _⟩
  case round =>
    obtain ⟨j, hj, rfl, h1⟩ := hrel
    by_cases hlt : (j + 1) * 4 ≤ n
    · obtain ⟨rfl, hc⟩ := HA.out (by omega)
      have hd : decide ((j : Int) * 4 + 4 ≤ n) = true := decide_eq_true (by omega)
      have k0 := (h1.below0.cell (World.block_lt_of_cell? w1 _ (hc (j * 4) (by omega)))).trans (hc (j * 4) (by omega))
      have k1 := (h1.below0.cell (World.block_lt_of_cell? w1 _ (hc (j * 4 + 1) (by omega)))).trans (hc (j * 4 + 1) (by omega))
      have k2 := (h1.below0.cell (World.block_lt_of_cell? w1 _ (hc (j * 4 + 2) (by omega)))).trans (hc (j * 4 + 2) (by omega))
      have k3 := (h1.below0.cell (World.block_lt_of_cell? w1 _ (hc (j * 4 + 3) (by omega)))).trans (hc (j * 4 + 3) (by omega))
      have hgl := World.block_lt_of_cell? wr _ k0
      simp only at hgl
      have hpt : ptsN 3 ns (j + 1) = ptsN 3 ns j ++ [(ns.getD (j * 4) 0, ns.getD (j * 4 + 1) 0, ns.getD (j * 4 + 2) 0, ns.getD (j * 4 + 3) 0)] := by
        rw [ptsN_succ]
        simp [ptN, hw2]
      generalize ns.getD (j * 4) 0 = x at *
      generalize ns.getD (j * 4 + 1) 0 = y at *
      generalize ns.getD (j * 4 + 2) 0 = z at *
      generalize ns.getD (j * 4 + 3) 0 = m at *
      have B0 : ∀ o : Obj, (wr.alloc o).cell? ⟨g, j * 4, none⟩ = some (.float .f64 x) := fun o => (World.cell?_alloc_lt wr o ⟨g, j * 4, none⟩ hgl).trans k0
      have C0 : ∀ o : Obj, (wr.alloc o).drew.cell? ⟨g, j * 4, none⟩ = some (.float .f64 x) := fun o => B0 o
      have B1 : ∀ o : Obj, (wr.alloc o).cell? ⟨g, j * 4 + 1, none⟩ = some (.float .f64 y) := fun o => (World.cell?_alloc_lt wr o ⟨g, j * 4 + 1, none⟩ hgl).trans k1
      have C1 : ∀ o : Obj, (wr.alloc o).drew.cell? ⟨g, j * 4 + 1, none⟩ = some (.float .f64 y) := fun o => B1 o
      have B2 : ∀ o : Obj, (wr.alloc o).cell? ⟨g, j * 4 + 2, none⟩ = some (.float .f64 z) := fun o => (World.cell?_alloc_lt wr o ⟨g, j * 4 + 2, none⟩ hgl).trans k2
      have C2 : ∀ o : Obj, (wr.alloc o).drew.cell? ⟨g, j * 4 + 2, none⟩ = some (.float .f64 z) := fun o => B2 o
      have B3 : ∀ o : Obj, (wr.alloc o).cell? ⟨g, j * 4 + 3, none⟩ = some (.float .f64 m) := fun o => (World.cell?_alloc_lt wr o ⟨g, j * 4 + 3, none⟩ hgl).trans k3
      have C3 : ∀ o : Obj, (wr.alloc o).drew.cell? ⟨g, j * 4 + 3, none⟩ = some (.float .f64 m) := fun o => B3 o
      have H1 := Lib.hid h1
      have HPT := Lib.hid hpt
      clear h1 hpt hc
      generalize hxs : plV (ptsN 3 ns j) = xs at *
      have HX := Lib.hid hxs
      clear hxs
      go_wp2_with fail
      go_region
      go_wp2_with (at_builtin; refine wpList_append_any _ rfl _ _ _ rfl 0 88 i0 (.agg #[.float .f64 0, .float .f64 0, .float .f64 0, .float .f64 0]) 4 32 Tryz.underlying85 hi0 hz0 hz1 hz2 rfl (by decide) _ j xs rfl (by exact World.ownsRow.alloc (own_drew (World.ownsRow.alloc H1.out.own _)) _) _ _ 1 _ [.float .f64 x, .float .f64 y, .float .f64 z, .float .f64 m] rfl (by exact reads_new4 (by simp)) (by simp [Value.oneCell']) (by simp only [maxLen]; omega) (by omega) (Nat.zero_le _) ?_; intro v1 W1 ho hg hp; have h2 := H1.out.step ((only_alloc (only_drew (World.grownBy_alloc wr _ _)) _).trans hg) ho (hp.imp id fun e => ⟨_, e, by simp; omega⟩); clear ho hg hp)
      go_roundw
      case rel =>
        refine ⟨j + 1, by omega, by first | go_num | (congr 1; omega), ?_⟩
        rw [HPT.out, plV_snoc, HX.out]
        exact h2
      case measure => simp [intOf]; omega
    · have hd : decide ((j : Int) * 4 + 4 ≤ n) = false := decide_eq_false (by omega)
      have ej : n / 4 = j := by omega
      go_wp2
      go_ret
      refine ⟨_, rfl, ?_⟩
      rw [ej]
      exact h1

theorem Places_any (q : Int) (q0 : 0 ≤ q) (q1 : q ≤ 3) (g n c : Nat) (A : Option Addr) (ns : List Nat) (w : World) (hA : 0 < n → A = some ⟨g, 0, none⟩ ∧ ∀ j, j < n → w.cell? ⟨g, j, none⟩ = some (.float .f64 (ns.getD j 0))) (hl : n ≤ 1000000000) :
    Calls Tryz.prog 58 #[.slice A n c, .int .i64 q] w fun e w' => ∃ v, e = .returned v ∧ Rn 88 4 w w' none v (n / wd q) (plV (ptsN q ns (n / wd q))) := by
  rcases wd_cases q q0 q1 with ⟨rfl, h⟩ | ⟨rfl, h⟩ | ⟨rfl, h⟩ | ⟨rfl, h⟩ <;> rw [h]
  · exact Places0 g n c A ns w hA hl
  · exact Places1 g n c A ns w hA hl
  · exact Places2 g n c A ns w hA hl
  · exact Places3 g n c A ns w hA hl

end Go.Proofs.YtpbcfgehmalppaaGreatDoor
