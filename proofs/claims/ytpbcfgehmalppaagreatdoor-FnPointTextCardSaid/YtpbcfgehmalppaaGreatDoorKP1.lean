/- What the reference's functions over trees compute, in plain lists: widths, places, numbers. -/
import Derived.Test.YtpbcfgehmalppaaGreatDoorQPtx1
import Derived.Test.YtpbcfgehmalppaaGreatDoorQPtx2
namespace Go.Proofs.YtpbcfgehmalppaaGreatDoorW.QPt
open Go.RowKit Go.Proofs.YtpbcfgehmalppaaGreatDoorW.PrintWords Go.Proofs.YtpbcfgehmalppaaGreatDoor

theorem w64 {x : Int} (h0 : -9000000000000000000 ≤ x) (h1 : x ≤ 9000000000000000000) : wrap64 x = x := by unfold wrap64; omega

theorem and1 (d : Int) : Go.bits .and .i64 d 1 = d % 2 := by
  show IntKind.i64.wrap ((BitVec.ofInt 64 d &&& BitVec.ofInt 64 (1 : Int)).toNat : Int) = _
  rw [BitVec.toNat_and, show (BitVec.ofInt 64 (1 : Int)).toNat = 2 ^ 1 - 1 by decide, Nat.and_two_pow_sub_one_eq_mod, BitVec.toNat_ofInt, IntKind.wrap_i64]
  omega
theorem and3 (d : Int) : Go.bits .and .i64 d 3 = d % 4 := i64_and3 d
theorem and2 (d : Int) : Go.bits .and .i64 d 2 = d / 2 % 2 * 2 := by
  show IntKind.i64.wrap ((BitVec.ofInt 64 d &&& BitVec.ofInt 64 (2 : Int)).toNat : Int) = _
  rw [BitVec.toNat_and, show (BitVec.ofInt 64 (2 : Int)).toNat = 2 by decide]
  have h : ∀ x : Nat, x &&& 2 = x / 2 % 2 * 2 := fun x => by
    have h1 := nat_bit 1 x
    simpa using h1
  rw [h, BitVec.toNat_ofInt, IntKind.wrap_i64]
  omega

theorem width_tells (q : Int) (h0 : 0 ≤ q) (h1 : q ≤ 3) : spec_Width.f q = some (wd q : Int) := by
  have h : q = 0 ∨ q = 1 ∨ q = 2 ∨ q = 3 := by omega
  unfold spec_Width.f
  rw [and1, and1]
  rcases h with rfl | rfl | rfl | rfl <;> simp [wd, wrap64]

theorem wd_le (q : Int) (h0 : 0 ≤ q) (h1 : q ≤ 3) : 2 ≤ wd q ∧ wd q ≤ 4 := by
  rcases wd_cases q h0 h1 with ⟨_, h⟩ | ⟨_, h⟩ | ⟨_, h⟩ | ⟨_, h⟩ <;> omega

/-- The i-th place of numbers, as the reference has it. -/
def pl (q : Int) (ns : List Nat) (i : Nat) : S88 := ⟨(ptN q ns i).1, (ptN q ns i).2.1, (ptN q ns i).2.2.1, (ptN q ns i).2.2.2⟩
/-- The first n places. -/
def pls (q : Int) (ns : List Nat) (n : Nat) : List S88 := (List.range n).map (pl q ns)
theorem pls_len (q : Int) (ns : List Nat) (n : Nat) : (pls q ns n).length = n := by simp [pls]
theorem pls_succ (q : Int) (ns : List Nat) (n : Nat) : pls q ns (n + 1) = pls q ns n ++ [pl q ns n] := by simp [pls, List.range_succ]

theorem places_loop (q : Int) (h0 : 0 ≤ q) (h1 : q ≤ 3) (ns : List Nat) (hl : ns.length ≤ 1000000000) : ∀ (d i : Nat), i + d = ns.length / wd q → Ev (fun k => spec_Places.l0 k ns q (pls q ns i) (wd q : Int) ((i * wd q : Nat) : Int)) (pls q ns (ns.length / wd q))
  | 0, i, hd => by
    obtain rfl : i = ns.length / wd q := by omega
    have hw := wd_le q h0 h1
    have hm : ns.length / wd q * wd q ≤ ns.length := Nat.div_mul_le_self _ _
    have hm2 : ns.length < ns.length / wd q * wd q + wd q := by
      have := Nat.lt_div_mul_add (a := ns.length) (b := wd q) (by omega)
      omega
    refine Ev.step (f := fun _ => some (pls q ns (ns.length / wd q))) (fun k => ?_) (Ev.now _)
    simp only [spec_Places.l0]
    rw [w64 (by omega) (by omega), if_neg (by omega)]
  | d + 1, i, hd => by
    have hw := wd_le q h0 h1
    have hi : (i + 1) * wd q ≤ ns.length := Nat.le_trans (Nat.mul_le_mul_right _ (by omega : i + 1 ≤ ns.length / wd q)) (Nat.div_mul_le_self _ _)
    have ih := places_loop q h0 h1 ns hl d (i + 1) (by omega)
    have hle : i ≤ ns.length := by have := Nat.div_le_self ns.length (wd q); omega
    rw [Nat.succ_mul] at hi ih
    have hpl := pls_len q ns i
    rw [pls_succ] at ih
    have hplc : pl q ns i = ⟨ns.getD (i * wd q) 0, ns.getD (i * wd q + 1) 0, if q % 2 = 1 then ns.getD (i * wd q + 2) 0 else 0, if q / 2 % 2 = 1 then ns.getD (i * wd q + (wd q - 1)) 0 else 0⟩ := rfl
    rw [hplc] at ih
    have hr : ∀ j : Nat, rdOf (0 : Nat) ns (j : Int) = ns.getD j 0 := fun j => rfl
    have hc := wd_cases q h0 h1
    clear hd hplc
    generalize pls q ns (ns.length / wd q) = res at *
    generalize pls q ns i = ps at *
    generalize i * wd q = p at *
    generalize wd q = W at *
    have e1 : wrap64 ((p : Int) + (W : Int)) = ((p + W : Nat) : Int) := by rw [w64 (by omega) (by omega)]; omega
    have e2 : wrap64 ((p : Int) + 1) = ((p + 1 : Nat) : Int) := by rw [w64 (by omega) (by omega)]; omega
    have e3 : wrap64 ((p : Int) + 2) = ((p + 2 : Nat) : Int) := by rw [w64 (by omega) (by omega)]; omega
    have e4 : wrap64 (((p + W : Nat) : Int) - 1) = ((p + (W - 1) : Nat) : Int) := by rw [w64 (by omega) (by omega)]; omega
    refine Ev.step (f := fun k => spec_Places.j1 k ns q ps (W : Int) (p : Int) (ns.getD p 0) (ns.getD (p + 1) 0) (if q % 2 = 1 then ns.getD (p + 2) 0 else 0) 0) (fun k => ?_) (Ev.step (fun k => ?_) ih)
    · simp only [spec_Places.l0]
      rw [e1, e2, e3, hr, hr, hr, and1, if_pos (by omega), if_pos (by omega), if_pos (by omega), if_pos (by omega), if_pos (by omega)]
      by_cases hq : q % 2 = 1
      · rw [if_pos hq, if_pos hq, if_pos (by omega), if_pos (by omega)]
      · rw [if_neg hq, if_neg hq]
    · simp only [spec_Places.j1]
      rw [e1, e4, hr, and2]
      by_cases hq : q / 2 % 2 = 1
      · rw [if_pos (by omega), if_pos hq, if_pos (by omega), if_pos (by omega), if_pos (by omega)]
      · rw [if_neg (by omega), if_neg hq, if_pos (by omega)]

theorem places_tells (q : Int) (h0 : 0 ≤ q) (h1 : q ≤ 3) (ns : List Nat) (hl : ns.length ≤ 1000000000) : Ev (fun k => spec_Places.f k ns q) (pls q ns (ns.length / wd q)) := by
  unfold spec_Places.f
  rw [width_tells q h0 h1]
  have h := places_loop q h0 h1 ns hl (ns.length / wd q) 0 (by omega)
  have e0 : pls q ns 0 = [] := rfl
  rw [e0] at h
  simpa using h

/-- The numbers of a place under a type. -/
def plN (q : Int) (p : S88) : List Nat := [p.f0, p.f1] ++ ((if q % 2 = 1 then [p.f2] else []) ++ (if q / 2 % 2 = 1 then [p.f3] else []))
/-- The numbers of places. -/
def plsN (q : Int) (ps : List S88) : List Nat := ps.flatMap (plN q)
theorem plsN_append (q : Int) (a b : List S88) : plsN q (a ++ b) = plsN q a ++ plsN q b := by simp [plsN]
theorem plN_len (q : Int) (p : S88) : (plN q p).length ≤ 4 := by
  unfold plN
  split <;> split <;> simp
theorem plsN_len (q : Int) (ps : List S88) : (plsN q ps).length ≤ 4 * ps.length := by
  induction ps with
  | nil => simp [plsN]
  | cons p ps ih =>
    have h1 := plN_len q p
    have e : plsN q (p :: ps) = plN q p ++ plsN q ps := by simp [plsN]
    rw [e, List.length_append, List.length_cons]
    omega

theorem nums_loop (q : Int) (ps : List S88) (hl : ps.length ≤ 1000000000) : ∀ (d i : Nat), i + d = ps.length → Ev (fun k => spec_Nums.l0 k q (plsN q (ps.take i)) ps (ps.length : Int) (i : Int)) (plsN q ps)
  | 0, i, hd => by
    obtain rfl : i = ps.length := by omega
    refine Ev.step (f := fun _ => some (plsN q ps)) (fun k => ?_) (Ev.now _)
    simp only [spec_Nums.l0]
    rw [if_neg (by omega), List.take_of_length_le (Nat.le_refl _)]
  | d + 1, i, hd => by
    have ih := nums_loop q ps hl d (i + 1) (by omega)
    have hn := plsN_len q (ps.take i)
    have ht : (ps.take i).length ≤ i := List.length_take_le _ _
    have hlt : i < ps.length := by omega
    rw [List.take_succ_eq_append_getElem hlt, plsN_append] at ih
    have e1 : wrap64 ((i : Int) + 1) = ((i + 1 : Nat) : Int) := by rw [w64 (by omega) (by omega)]; omega
    have hr : rd_T88 ps (i : Int) = ps[i] := by
      unfold rd_T88
      rw [Int.toNat_natCast, List.getD_eq_getElem?_getD, List.getElem?_eq_getElem hlt]
      rfl
    have hp1 : plsN q [ps[i]] = plN q ps[i] := by simp [plsN]
    rw [hp1] at ih
    refine Ev.step (fun k => ?_) ih
    simp only [spec_Nums.l0]
    simp only [e1, hr, and1, and2, Option.bind_some]
    generalize plsN q (ps.take i) = xs at *
    generalize ps[i] = p at *
    unfold plN
    rcases Int.emod_two_eq q with ha | ha <;> rcases Int.emod_two_eq (q / 2) with hb | hb <;> rw [ha, hb] <;>
      (repeat (first | rw [if_pos (by first | omega | (simp only [List.length_append, List.length_cons, List.length_nil]; omega))] | rw [if_neg (by omega)])) <;> simp
theorem nums_tells (q : Int) (ps : List S88) (hl : ps.length ≤ 1000000000) : Ev (fun k => spec_Nums.f k ps q) (plsN q ps) := by
  have h := nums_loop q ps hl ps.length 0 (by omega)
  simpa [spec_Nums.f, plsN] using h

end Go.Proofs.YtpbcfgehmalppaaGreatDoorW.QPt
