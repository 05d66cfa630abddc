/- A sequence's places: how many numbers a place has, a place out of numbers; floats in a row that is read. -/
import Derived.Test.YtpbcfgehmalppaaGreatDoorFtG
import Derived.Test.YtpbcfgehmalppaaGreatDoorWFlt
import Derived.Laws.MakeOwn
import Derived.Laws.CopyOwn
import Derived.BigRegion
namespace Go.Proofs.YtpbcfgehmalppaaGreatDoor
open Go.RowKit Go.Proofs.YtpbcfgehmalppaaGreatDoorW.PrintWords

attribute [local go_sem] Go.Proofs.YtpbcfgehmalppaaGreatDoor.run_store_float

/-- How many numbers a place has. -/
def wd (d : Int) : Nat := 2 + (d % 2).toNat + (d / 2 % 2).toNat
theorem wd_cases (d : Int) (h0 : 0 ≤ d) (h1 : d ≤ 3) : (d = 0 ∧ wd d = 2) ∨ (d = 1 ∧ wd d = 3) ∨ (d = 2 ∧ wd d = 3) ∨ (d = 3 ∧ wd d = 4) := by
  have h : d = 0 ∨ d = 1 ∨ d = 2 ∨ d = 3 := by omega
  rcases h with rfl | rfl | rfl | rfl <;> simp [wd]

set_option maxRecDepth 100000 in
theorem run_dims (d : Int) (n : Nat) (h : (d = 0 ∧ n = 2) ∨ (d = 1 ∧ n = 3) ∨ (d = 2 ∧ n = 3) ∨ (d = 3 ∧ n = 4)) (w : World) :
    (Instr.index 148 (.agg #[.int .i64 2, .int .i64 3, .int .i64 3, .int .i64 4]) (.int .u8 d)).run Tryz.prog w = .ok (.int .i64 n) w := by
  rcases h with ⟨rfl, rfl⟩ | ⟨rfl, rfl⟩ | ⟨rfl, rfl⟩ | ⟨rfl, rfl⟩ <;> rfl

set_option maxRecDepth 100000 in
theorem dimension_any (d : Int) (h0 : 0 ≤ d) (h1 : d ≤ 3) (w : World) : Calls Tryz.prog 106 #[.int .u8 d] w fun e w' => e = .returned (.int .i64 (wd d)) ∧ w' = w := by
  have h := run_dims d (wd d) (wd_cases d h0 h1)
  generalize wd d = n at *
  go_enter Tryz.func106, Tryz.ntmps106
  go_wp2
  go_ret
  exact ⟨rfl, rfl⟩

/-- A place: X, Y, Z, M, as bits. -/
abbrev Pl := Nat × Nat × Nat × Nat
/-- The i-th place of numbers under a type. -/
def ptN (q : Int) (ns : List Nat) (i : Nat) : Pl :=
  (ns.getD (i * wd q) 0, ns.getD (i * wd q + 1) 0, if q % 2 = 1 then ns.getD (i * wd q + 2) 0 else 0, if q / 2 % 2 = 1 then ns.getD (i * wd q + (wd q - 1)) 0 else 0)

theorem below_setCell' {B : Nat} {w w1 : World} (h : Below B w w1) {p : Addr} (hp : B ≤ p.block) (u : Value) : Below B w (w1.setCell p u) :=
  h.trans ⟨rfl, rfl, rfl, by simp [World.setCell], fun k hk => Below.heap_setCell _ p u k (by omega)⟩

/-- A row of floats that is read: its address, its cells. -/
theorem fl_cells {w : World} {A : Option Addr} {n : Nat} {xs : List Nat} (h : Kd.C Kd.float w A n xs) (hn : 0 < n) :
    ∃ ad, A = some ad ∧ ad.block < w.heap.size ∧ ∀ j, j < xs.length → w.cell? (ad.add j) = some (.float .f64 (xs.getD j 0)) := by
  obtain ⟨ad, e, hc⟩ := h.2.2 hn
  have hcc : ∀ j, j < xs.length → w.cell? (ad.add j) = some (.float .f64 (xs.getD j 0)) := fun j hj => by
    obtain ⟨c, _, hK, hcell⟩ := hc j xs[j] (List.getElem?_eq_getElem hj)
    have hK' : c = [Value.float .f64 xs[j]] := hK
    subst hK'
    have h0 := hcell 0 _ rfl
    have e1 : j * Kd.float.sz + 0 = j := by show j * 1 + 0 = j; omega
    rw [e1] at h0
    rw [h0, List.getD_eq_getElem?_getD, List.getElem?_eq_getElem hj]
    rfl
  refine ⟨ad, e, ?_, hcc⟩
  have hl : 0 < xs.length := by
    have := h.1
    omega
  have := World.block_lt_of_cell? w _ (hcc 0 hl)
  rwa [block_of_add] at this

end Go.Proofs.YtpbcfgehmalppaaGreatDoor
