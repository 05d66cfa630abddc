/- The shortest decimal of a float64's significand and exponent, as the program computes it: a plain function of whole numbers and of the table of powers of ten. -/
import Derived.Test.YtpbcfgehmalppaaGreatDoorFtA
namespace Go.Proofs.YtpbcfgehmalppaaGreatDoor
open Go.RowKit

theorem u64r (n : Int) : 0 ≤ IntKind.u64.wrap n ∧ IntKind.u64.wrap n ≤ 18446744073709551615 := by rw [u64w]; omega
theorem orr (a b : Int) : 0 ≤ bits .or .u64 a b ∧ bits .or .u64 a b ≤ 18446744073709551615 := u64r _
theorem uscaleV_r (x hi lo : Int) (k : Nat) : 0 ≤ uscaleV x hi lo k ∧ uscaleV x hi lo k ≤ 18446744073709551615 := by
  unfold uscaleV
  split <;> exact orr _ _

/-- The table's numbers fit a uint64. -/
def TabR (hi lo : Nat → Int) : Prop := ∀ i, 0 ≤ hi i ∧ hi i ≤ 18446744073709551615 ∧ 0 ≤ lo i ∧ lo i ≤ 18446744073709551615

/-- How far the last digit of a float with this exponent lies above the lowest bit. -/
def sfZ (e : Int) : Int := if -1085 ≤ e then 11 else 11 + (-1085 - e)
/-- The decimal exponent. -/
def sfP (m e : Int) : Int := if m = 9223372036854775808 ∧ -1085 < e then -(((e + 11) * 631305 - 261663) / 2097152) else -((e + sfZ e) * 78913 / 262144)
def sfMin (m e : Int) : Int := if m = 9223372036854775808 ∧ -1085 < e then IntKind.u64.wrap (m - 512) else IntKind.u64.wrap (m - 2 ^ (sfZ e - 1).toNat)
def sfMax (m e : Int) : Int := IntKind.u64.wrap (m + 2 ^ (sfZ e - 1).toNat)
def sfOdd (m e : Int) : Int := m / 2 ^ (sfZ e).toNat % 2
/-- The index in the table, and the shift. -/
def sfI (m e : Int) : Nat := (sfP m e + 348).toNat
def sfK (m e : Int) : Nat := (-(e + sfP m e * 108853 / 32768 + 3)).toNat

theorem sf_bounds (m e : Int) (h0 : -1137 ≤ e) (h1 : e ≤ 960) : -300 ≤ sfP m e ∧ sfP m e ≤ 340 ∧ 0 ≤ -(e + sfP m e * 108853 / 32768 + 3) ∧ -(e + sfP m e * 108853 / 32768 + 3) ≤ 63 ∧ 0 ≤ sfZ e - 1 ∧ sfZ e ≤ 63 := by
  have hA : ∀ j : Nat, j < 2098 → (let e := (j : Int) - 1137; -1085 < e → -300 ≤ -(((e + 11) * 631305 - 261663) / 2097152) ∧ -(((e + 11) * 631305 - 261663) / 2097152) ≤ 340 ∧ 0 ≤ -(e + -(((e + 11) * 631305 - 261663) / 2097152) * 108853 / 32768 + 3) ∧ -(e + -(((e + 11) * 631305 - 261663) / 2097152) * 108853 / 32768 + 3) ≤ 63) := by decide +kernel
  have hB : ∀ j : Nat, j < 2098 → (let e := (j : Int) - 1137; -300 ≤ -((e + sfZ e) * 78913 / 262144) ∧ -((e + sfZ e) * 78913 / 262144) ≤ 340 ∧ 0 ≤ -(e + -((e + sfZ e) * 78913 / 262144) * 108853 / 32768 + 3) ∧ -(e + -((e + sfZ e) * 78913 / 262144) * 108853 / 32768 + 3) ≤ 63) := by decide +kernel
  have hj : ((e + 1137).toNat : Int) - 1137 = e := by omega
  have hz : 0 ≤ sfZ e - 1 ∧ sfZ e ≤ 63 := by unfold sfZ; split <;> omega
  unfold sfP
  split
  · rename_i h
    have := hA (e + 1137).toNat (by omega)
    simp only [hj] at this
    obtain ⟨a, b, c, d⟩ := this h.2
    exact ⟨a, b, c, d, hz⟩
  · have := hB (e + 1137).toNat (by omega)
    simp only [hj] at this
    obtain ⟨a, b, c, d⟩ := this
    exact ⟨a, b, c, d, hz⟩

/-- The least and the greatest decimal that read back, in units of the decimal exponent. -/
def sfLo (hi lo : Nat → Int) (m e : Int) : Int := IntKind.u64.wrap (IntKind.u64.wrap (uscaleV (sfMin m e) (hi (sfI m e)) (lo (sfI m e)) (sfK m e) + sfOdd m e) + 3) / 4
def sfHi (hi lo : Nat → Int) (m e : Int) : Int := IntKind.u64.wrap (uscaleV (sfMax m e) (hi (sfI m e)) (lo (sfI m e)) (sfK m e) + -sfOdd m e) / 4
def sfMid (hi lo : Nat → Int) (m e : Int) : Int := IntKind.u64.wrap (uscaleV m (hi (sfI m e)) (lo (sfI m e)) (sfK m e) + 1 + uscaleV m (hi (sfI m e)) (lo (sfI m e)) (sfK m e) / 4 % 2) / 4
def sfV (hi lo : Nat → Int) (m e : Int) : Int × Int :=
  if sfLo hi lo m e ≤ sfHi hi lo m e / 10 * 10 then (sfHi hi lo m e / 10, -(sfP m e - 1))
  else (if sfLo hi lo m e < sfHi hi lo m e then sfMid hi lo m e else sfLo hi lo m e, -sfP m e)

theorem i64_and1 (z : Int) (h0 : 0 ≤ z) (h1 : z < 9223372036854775808) : bits .and .i64 z 1 = z % 2 := by
  obtain ⟨a, rfl⟩ := Int.eq_ofNat_of_zero_le h0
  have h := i64_and_nat a 1 (by omega) (by omega)
  rw [Nat.and_one_is_mod] at h
  exact h.trans (by omega)

theorem Pow10.grown {w w' : World} {hi lo : Nat → Int} (h : Pow10 w hi lo) {row : Option Nat} (hg : w.grownBy w' row) (hne : row ≠ some 3) : Pow10 w' hi lo := fun i hi' =>
  ⟨hg.cell (h i hi').1 (fun e => hne e.symm), hg.cell (h i hi').2 (fun e => hne e.symm)⟩


theorem wrap_pow2 (n : Nat) (h : n ≤ 63) : IntKind.u64.wrap (2 ^ n) = 2 ^ n := by
  have : ∀ j, j < 64 → IntKind.u64.wrap (2 ^ j) = 2 ^ j := by decide +kernel
  exact this n (by omega)
theorem div_pow2 (m : Int) (k : Nat) (h0 : 0 ≤ m) (h1 : m ≤ 18446744073709551615) (hk : 11 ≤ k) : 0 ≤ m / 2 ^ k ∧ m / 2 ^ k < 9223372036854775808 := by
  have hp : (0 : Int) < 2 ^ k := Int.pow_pos (by decide)
  refine ⟨Int.ediv_nonneg h0 (Int.le_of_lt hp), ?_⟩
  obtain ⟨j, rfl⟩ : ∃ j, k = j + 1 := ⟨k - 1, by omega⟩
  have hq : (0 : Int) < 2 ^ j := Int.pow_pos (by decide)
  rw [Int.pow_succ, ← Int.ediv_ediv_of_nonneg (Int.le_of_lt hq)]
  have := Int.ediv_le_self (2 ^ j) h0
  omega

theorem below_of_new {w w1 : World} (h : w.grownBy w1 (some w.heap.size)) : Below w.heap.size w w1 :=
  ⟨h.os, h.tape, h.output, h.size, fun i hi => h.block i hi (by intro e; injection e; omega)⟩

theorem usc_of_blk {w : World} {g : Nat} {a b c : Int} (h : Blk w g 186 #[.int .u64 a, .int .u64 b, .int .i64 c]) : uscT w g a b c := ⟨h.cell 0, h.cell 1, h.cell 2⟩


set_option maxHeartbeats 2000000 in
theorem shortFloat_B (m e : Int) (hi lo : Nat → Int) (hm0 : 0 ≤ m) (hm1 : m ≤ 18446744073709551615) (he0 : -1085 ≤ e) (he1 : e ≤ 960) (hmb : (m == 9223372036854775808) = false) (w : World) (ht : Pow10 w hi lo) (hr : TabR hi lo) (hw : 7 ≤ w.heap.size) :
    Calls Tryz.prog 161 #[.int .u64 m, .int .i64 e] w fun x w' => x = .returned (.tuple #[.int .u64 (sfV hi lo m e).1, .int .i64 (sfV hi lo m e).2]) ∧ Below w.heap.size w w' := by
  obtain ⟨p0, p1, k0, k1, z0, z1⟩ := sf_bounds m e (by omega) (by omega)
  have hP : -((e + 11) * 78913 / 262144) = sfP m e := by
    have hm : ¬ (m = 9223372036854775808 ∧ -1085 < e) := fun h => by simp [h.1] at hmb
    unfold sfP sfZ; rw [if_neg hm, if_pos he0]
  have hMn : IntKind.u64.wrap (m - 1024) = sfMin m e := by
    have hm : ¬ (m = 9223372036854775808 ∧ -1085 < e) := fun h => by simp [h.1] at hmb
    unfold sfMin sfZ; rw [if_neg hm, if_pos he0]; rfl
  have hMx : IntKind.u64.wrap (m + 1024) = sfMax m e := by unfold sfMax sfZ; rw [if_pos he0]; rfl
  have hOd : bits BinOp.and IntKind.i64 (m / 2048) 1 = sfOdd m e := by unfold sfOdd sfZ; rw [if_pos he0]; exact i64_and1 (m / 2048) (by omega) (by omega)
  have hod : 0 ≤ sfOdd m e ∧ sfOdd m e ≤ 1 := by unfold sfOdd; omega
  have hK : -(e + sfP m e * 108853 / 32768 + 3) = ((sfK m e : Nat) : Int) := by unfold sfK; omega
  have hk : sfK m e ≤ 63 := by omega
  have hA := Lib.hid hP
  have hB := Lib.hid hMn
  have hC := Lib.hid hMx
  have hD := Lib.hid hOd
  have hE := Lib.hid hK
  have hmn : 0 ≤ sfMin m e ∧ sfMin m e ≤ 18446744073709551615 := by rw [← hMn]; exact u64r _
  have hmx : 0 ≤ sfMax m e ∧ sfMax m e ≤ 18446744073709551615 := by rw [← hMx]; exact u64r _
  clear hP hMn hMx hOd hK
  obtain ⟨hmn0, hmn1⟩ := hmn
  obtain ⟨hmx0, hmx1⟩ := hmx
  obtain ⟨hod0, hod1⟩ := hod
  obtain ⟨r0, r1, r2, r3⟩ := hr (sfI m e)
  have hbel : Below w.heap.size w w := Below.refl _ _
  go_enter Tryz.func161, Tryz.ntmps161
  go_wp2_with (first | (go_at_call 156; refine (log10Pow2_any _ (by omega) (by omega) _).mono ?_; rintro x w ⟨rfl, rfl⟩) | (go_at_call 165; refine (skewed_any _ (by omega) (by omega) _).mono ?_; rintro x w ⟨rfl, rfl⟩))
  rw [hA.out, hB.out, hC.out, hD.out]
  refine (log2Pow10_any _ (by omega) (by omega) _).mono ?_
  rintro x w ⟨rfl, rfl⟩
  go_wp2_with fail
  have hblk : Blk (w.alloc (Obj.cells #[Value.int IntKind.u64 0, Value.int IntKind.u64 0, Value.int IntKind.i64 0] 186)) w.heap.size 186 _ := Blk.new w _ _
  have hg0 : w.grownBy (w.alloc (Obj.cells #[Value.int IntKind.u64 0, Value.int IntKind.u64 0, Value.int IntKind.i64 0] 186)) (some w.heap.size) := only_alloc (World.grownBy.refl w _) _
  refine (prescale_any _ _ _ _ _ _ _ hi lo (by omega) (by omega) (by omega) (by omega) (by omega) (by omega) _ (ht.grown hg0 (by intro h; injection h; omega)) hblk (by omega)).mono ?_
  rintro x w1 ⟨rfl, hb1, hg1⟩
  have hu : uscT w1 w.heap.size (hi (sfI m e)) (lo (sfI m e)) (sfK m e) := by
    rw [hE.out] at hb1
    exact usc_of_blk hb1
  have HG := Lib.hid (hg0.trans hg1)
  clear hblk hg0 hg1 hb1
  have HU := Lib.hid hu
  clear hu
  go_wp2_with fail
  refine (uscale_any _ _ _ _ _ hmn0 hmn1 r0 r1 r2 r3 hk _ (by exact HU.out)).mono ?_
  rintro x w2 ⟨rfl, n1, rfl⟩
  go_wp2_with fail
  refine (nudge_any _ _ _).mono ?_
  rintro x w2 ⟨rfl, rfl⟩
  go_wp2_with fail
  refine (ceil_any _ _).mono ?_
  rintro x w3 ⟨rfl, rfl⟩
  rw [show IntKind.u64.wrap (IntKind.u64.wrap (uscaleV (sfMin m e) (hi (sfI m e)) (lo (sfI m e)) (sfK m e) + sfOdd m e) + 3) / 4 = sfLo hi lo m e from rfl]
  go_wp2_with fail
  refine (uscale_any _ _ _ _ _ hmx0 hmx1 r0 r1 r2 r3 hk _ (by exact HU.out)).mono ?_
  rintro x w2 ⟨rfl, n2, rfl⟩
  go_wp2_with fail
  refine (nudge_any _ _ _).mono ?_
  rintro x w2 ⟨rfl, rfl⟩
  go_wp2_with fail
  refine (floor_any _ (u64r _).1 (u64r _).2 _).mono ?_
  rintro x w3 ⟨rfl, rfl⟩
  rw [show IntKind.u64.wrap (uscaleV (sfMax m e) (hi (sfI m e)) (lo (sfI m e)) (sfK m e) + -sfOdd m e) / 4 = sfHi hi lo m e from rfl]
  obtain ⟨hh0, hh1⟩ : 0 ≤ sfHi hi lo m e ∧ sfHi hi lo m e ≤ 4611686018427387903 := by
    have := u64r (uscaleV (sfMax m e) (hi (sfI m e)) (lo (sfI m e)) (sfK m e) + -sfOdd m e)
    unfold sfHi; omega
  by_cases hc1 : sfLo hi lo m e ≤ sfHi hi lo m e / 10 * 10
  · have hv : sfV hi lo m e = (sfHi hi lo m e / 10, -(sfP m e - 1)) := by unfold sfV; rw [if_pos hc1]
    have HV := Lib.hid hv
    clear hv
    go_wp2
    go_ret2
    rw [HV.out]
    exact ⟨rfl, below_drewN (below_of_new HG.out) _⟩
  · by_cases hc2 : sfLo hi lo m e < sfHi hi lo m e
    · have hv : sfV hi lo m e = (sfMid hi lo m e, -sfP m e) := by unfold sfV; rw [if_neg hc1, if_pos hc2]
      have HV := Lib.hid hv
      clear hv
      go_wp2_with fail
      refine (uscale_any _ _ _ _ _ hm0 hm1 r0 r1 r2 r3 hk _ (by exact HU.out)).mono ?_
      rintro x w2 ⟨rfl, n3, rfl⟩
      go_wp2_with fail
      refine (round_any _ (uscaleV_r _ _ _ _).1 (uscaleV_r _ _ _ _).2 _).mono ?_
      rintro x w3 ⟨rfl, n4, rfl⟩
      go_wp2
      go_ret2
      rw [HV.out]
      exact ⟨rfl, below_drewN (below_of_new HG.out) _⟩
    · have hv : sfV hi lo m e = (sfLo hi lo m e, -sfP m e) := by unfold sfV; rw [if_neg hc1, if_neg hc2]
      have HV := Lib.hid hv
      clear hv
      go_wp2
      go_ret2
      rw [HV.out]
      exact ⟨rfl, below_drewN (below_of_new HG.out) _⟩

set_option maxHeartbeats 2000000 in
theorem shortFloat_A (m e : Int) (hi lo : Nat → Int) (hm0 : 0 ≤ m) (hm1 : m ≤ 18446744073709551615) (he0 : -1085 < e) (he1 : e ≤ 960) (hmb : (m == 9223372036854775808) = true) (w : World) (ht : Pow10 w hi lo) (hr : TabR hi lo) (hw : 7 ≤ w.heap.size) :
    Calls Tryz.prog 161 #[.int .u64 m, .int .i64 e] w fun x w' => x = .returned (.tuple #[.int .u64 (sfV hi lo m e).1, .int .i64 (sfV hi lo m e).2]) ∧ Below w.heap.size w w' := by
  obtain ⟨p0, p1, k0, k1, z0, z1⟩ := sf_bounds m e (by omega) (by omega)
  have hP : -(((e + 11) * 631305 - 261663) / 2097152) = sfP m e := by
    have hm : m = 9223372036854775808 ∧ -1085 < e := ⟨by simpa using hmb, he0⟩
    unfold sfP; rw [if_pos hm]
  have hMn : IntKind.u64.wrap (m - 512) = sfMin m e := by
    have hm : m = 9223372036854775808 ∧ -1085 < e := ⟨by simpa using hmb, he0⟩
    unfold sfMin; rw [if_pos hm]
  have hMx : IntKind.u64.wrap (m + 1024) = sfMax m e := by unfold sfMax sfZ; rw [if_pos (by omega)]; rfl
  have hOd : bits BinOp.and IntKind.i64 (m / 2048) 1 = sfOdd m e := by unfold sfOdd sfZ; rw [if_pos (by omega)]; exact i64_and1 (m / 2048) (by omega) (by omega)
  have hod : 0 ≤ sfOdd m e ∧ sfOdd m e ≤ 1 := by unfold sfOdd; omega
  have hK : -(e + sfP m e * 108853 / 32768 + 3) = ((sfK m e : Nat) : Int) := by unfold sfK; omega
  have hk : sfK m e ≤ 63 := by omega
  have hA := Lib.hid hP
  have hB := Lib.hid hMn
  have hC := Lib.hid hMx
  have hD := Lib.hid hOd
  have hE := Lib.hid hK
  have hmn : 0 ≤ sfMin m e ∧ sfMin m e ≤ 18446744073709551615 := by rw [← hMn]; exact u64r _
  have hmx : 0 ≤ sfMax m e ∧ sfMax m e ≤ 18446744073709551615 := by rw [← hMx]; exact u64r _
  clear hP hMn hMx hOd hK
  obtain ⟨hmn0, hmn1⟩ := hmn
  obtain ⟨hmx0, hmx1⟩ := hmx
  obtain ⟨hod0, hod1⟩ := hod
  obtain ⟨r0, r1, r2, r3⟩ := hr (sfI m e)
  have hbel : Below w.heap.size w w := Below.refl _ _
  go_enter Tryz.func161, Tryz.ntmps161
  go_wp2_with (first | (go_at_call 156; refine (log10Pow2_any _ (by omega) (by omega) _).mono ?_; rintro x w ⟨rfl, rfl⟩) | (go_at_call 165; refine (skewed_any _ (by omega) (by omega) _).mono ?_; rintro x w ⟨rfl, rfl⟩))
  rw [hA.out, hB.out, hC.out, hD.out]
  refine (log2Pow10_any _ (by omega) (by omega) _).mono ?_
  rintro x w ⟨rfl, rfl⟩
  go_wp2_with fail
  have hblk : Blk (w.alloc (Obj.cells #[Value.int IntKind.u64 0, Value.int IntKind.u64 0, Value.int IntKind.i64 0] 186)) w.heap.size 186 _ := Blk.new w _ _
  have hg0 : w.grownBy (w.alloc (Obj.cells #[Value.int IntKind.u64 0, Value.int IntKind.u64 0, Value.int IntKind.i64 0] 186)) (some w.heap.size) := only_alloc (World.grownBy.refl w _) _
  refine (prescale_any _ _ _ _ _ _ _ hi lo (by omega) (by omega) (by omega) (by omega) (by omega) (by omega) _ (ht.grown hg0 (by intro h; injection h; omega)) hblk (by omega)).mono ?_
  rintro x w1 ⟨rfl, hb1, hg1⟩
  have hu : uscT w1 w.heap.size (hi (sfI m e)) (lo (sfI m e)) (sfK m e) := by
    rw [hE.out] at hb1
    exact usc_of_blk hb1
  have HG := Lib.hid (hg0.trans hg1)
  clear hblk hg0 hg1 hb1
  have HU := Lib.hid hu
  clear hu
  go_wp2_with fail
  refine (uscale_any _ _ _ _ _ hmn0 hmn1 r0 r1 r2 r3 hk _ (by exact HU.out)).mono ?_
  rintro x w2 ⟨rfl, n1, rfl⟩
  go_wp2_with fail
  refine (nudge_any _ _ _).mono ?_
  rintro x w2 ⟨rfl, rfl⟩
  go_wp2_with fail
  refine (ceil_any _ _).mono ?_
  rintro x w3 ⟨rfl, rfl⟩
  rw [show IntKind.u64.wrap (IntKind.u64.wrap (uscaleV (sfMin m e) (hi (sfI m e)) (lo (sfI m e)) (sfK m e) + sfOdd m e) + 3) / 4 = sfLo hi lo m e from rfl]
  go_wp2_with fail
  refine (uscale_any _ _ _ _ _ hmx0 hmx1 r0 r1 r2 r3 hk _ (by exact HU.out)).mono ?_
  rintro x w2 ⟨rfl, n2, rfl⟩
  go_wp2_with fail
  refine (nudge_any _ _ _).mono ?_
  rintro x w2 ⟨rfl, rfl⟩
  go_wp2_with fail
  refine (floor_any _ (u64r _).1 (u64r _).2 _).mono ?_
  rintro x w3 ⟨rfl, rfl⟩
  rw [show IntKind.u64.wrap (uscaleV (sfMax m e) (hi (sfI m e)) (lo (sfI m e)) (sfK m e) + -sfOdd m e) / 4 = sfHi hi lo m e from rfl]
  obtain ⟨hh0, hh1⟩ : 0 ≤ sfHi hi lo m e ∧ sfHi hi lo m e ≤ 4611686018427387903 := by
    have := u64r (uscaleV (sfMax m e) (hi (sfI m e)) (lo (sfI m e)) (sfK m e) + -sfOdd m e)
    unfold sfHi; omega
  by_cases hc1 : sfLo hi lo m e ≤ sfHi hi lo m e / 10 * 10
  · have hv : sfV hi lo m e = (sfHi hi lo m e / 10, -(sfP m e - 1)) := by unfold sfV; rw [if_pos hc1]
    have HV := Lib.hid hv
    clear hv
    go_wp2
    go_ret2
    rw [HV.out]
    exact ⟨rfl, below_drewN (below_of_new HG.out) _⟩
  · by_cases hc2 : sfLo hi lo m e < sfHi hi lo m e
    · have hv : sfV hi lo m e = (sfMid hi lo m e, -sfP m e) := by unfold sfV; rw [if_neg hc1, if_pos hc2]
      have HV := Lib.hid hv
      clear hv
      go_wp2_with fail
      refine (uscale_any _ _ _ _ _ hm0 hm1 r0 r1 r2 r3 hk _ (by exact HU.out)).mono ?_
      rintro x w2 ⟨rfl, n3, rfl⟩
      go_wp2_with fail
      refine (round_any _ (uscaleV_r _ _ _ _).1 (uscaleV_r _ _ _ _).2 _).mono ?_
      rintro x w3 ⟨rfl, n4, rfl⟩
      go_wp2
      go_ret2
      rw [HV.out]
      exact ⟨rfl, below_drewN (below_of_new HG.out) _⟩
    · have hv : sfV hi lo m e = (sfLo hi lo m e, -sfP m e) := by unfold sfV; rw [if_neg hc1, if_neg hc2]
      have HV := Lib.hid hv
      clear hv
      go_wp2
      go_ret2
      rw [HV.out]
      exact ⟨rfl, below_drewN (below_of_new HG.out) _⟩

set_option maxHeartbeats 2000000 in
theorem shortFloat_B2 (m e : Int) (hi lo : Nat → Int) (hm0 : 0 ≤ m) (hm1 : m ≤ 18446744073709551615) (he0 : -1085 ≤ e) (he1 : e ≤ -1085) (hmb : (m == 9223372036854775808) = true) (w : World) (ht : Pow10 w hi lo) (hr : TabR hi lo) (hw : 7 ≤ w.heap.size) :
    Calls Tryz.prog 161 #[.int .u64 m, .int .i64 e] w fun x w' => x = .returned (.tuple #[.int .u64 (sfV hi lo m e).1, .int .i64 (sfV hi lo m e).2]) ∧ Below w.heap.size w w' := by
  obtain ⟨p0, p1, k0, k1, z0, z1⟩ := sf_bounds m e (by omega) (by omega)
  have hP : -((e + 11) * 78913 / 262144) = sfP m e := by
    have hm : ¬ (m = 9223372036854775808 ∧ -1085 < e) := fun h => by omega
    unfold sfP sfZ; rw [if_neg hm, if_pos he0]
  have hMn : IntKind.u64.wrap (m - 1024) = sfMin m e := by
    have hm : ¬ (m = 9223372036854775808 ∧ -1085 < e) := fun h => by omega
    unfold sfMin sfZ; rw [if_neg hm, if_pos he0]; rfl
  have hMx : IntKind.u64.wrap (m + 1024) = sfMax m e := by unfold sfMax sfZ; rw [if_pos he0]; rfl
  have hOd : bits BinOp.and IntKind.i64 (m / 2048) 1 = sfOdd m e := by unfold sfOdd sfZ; rw [if_pos he0]; exact i64_and1 (m / 2048) (by omega) (by omega)
  have hod : 0 ≤ sfOdd m e ∧ sfOdd m e ≤ 1 := by unfold sfOdd; omega
  have hK : -(e + sfP m e * 108853 / 32768 + 3) = ((sfK m e : Nat) : Int) := by unfold sfK; omega
  have hk : sfK m e ≤ 63 := by omega
  have hA := Lib.hid hP
  have hB := Lib.hid hMn
  have hC := Lib.hid hMx
  have hD := Lib.hid hOd
  have hE := Lib.hid hK
  have hmn : 0 ≤ sfMin m e ∧ sfMin m e ≤ 18446744073709551615 := by rw [← hMn]; exact u64r _
  have hmx : 0 ≤ sfMax m e ∧ sfMax m e ≤ 18446744073709551615 := by rw [← hMx]; exact u64r _
  clear hP hMn hMx hOd hK
  obtain ⟨hmn0, hmn1⟩ := hmn
  obtain ⟨hmx0, hmx1⟩ := hmx
  obtain ⟨hod0, hod1⟩ := hod
  obtain ⟨r0, r1, r2, r3⟩ := hr (sfI m e)
  have hbel : Below w.heap.size w w := Below.refl _ _
  go_enter Tryz.func161, Tryz.ntmps161
  go_wp2_with (first | (go_at_call 156; refine (log10Pow2_any _ (by omega) (by omega) _).mono ?_; rintro x w ⟨rfl, rfl⟩) | (go_at_call 165; refine (skewed_any _ (by omega) (by omega) _).mono ?_; rintro x w ⟨rfl, rfl⟩))
  rw [hA.out, hB.out, hC.out, hD.out]
  refine (log2Pow10_any _ (by omega) (by omega) _).mono ?_
  rintro x w ⟨rfl, rfl⟩
  go_wp2_with fail
  have hblk : Blk (w.alloc (Obj.cells #[Value.int IntKind.u64 0, Value.int IntKind.u64 0, Value.int IntKind.i64 0] 186)) w.heap.size 186 _ := Blk.new w _ _
  have hg0 : w.grownBy (w.alloc (Obj.cells #[Value.int IntKind.u64 0, Value.int IntKind.u64 0, Value.int IntKind.i64 0] 186)) (some w.heap.size) := only_alloc (World.grownBy.refl w _) _
  refine (prescale_any _ _ _ _ _ _ _ hi lo (by omega) (by omega) (by omega) (by omega) (by omega) (by omega) _ (ht.grown hg0 (by intro h; injection h; omega)) hblk (by omega)).mono ?_
  rintro x w1 ⟨rfl, hb1, hg1⟩
  have hu : uscT w1 w.heap.size (hi (sfI m e)) (lo (sfI m e)) (sfK m e) := by
    rw [hE.out] at hb1
    exact usc_of_blk hb1
  have HG := Lib.hid (hg0.trans hg1)
  clear hblk hg0 hg1 hb1
  have HU := Lib.hid hu
  clear hu
  go_wp2_with fail
  refine (uscale_any _ _ _ _ _ hmn0 hmn1 r0 r1 r2 r3 hk _ (by exact HU.out)).mono ?_
  rintro x w2 ⟨rfl, n1, rfl⟩
  go_wp2_with fail
  refine (nudge_any _ _ _).mono ?_
  rintro x w2 ⟨rfl, rfl⟩
  go_wp2_with fail
  refine (ceil_any _ _).mono ?_
  rintro x w3 ⟨rfl, rfl⟩
  rw [show IntKind.u64.wrap (IntKind.u64.wrap (uscaleV (sfMin m e) (hi (sfI m e)) (lo (sfI m e)) (sfK m e) + sfOdd m e) + 3) / 4 = sfLo hi lo m e from rfl]
  go_wp2_with fail
  refine (uscale_any _ _ _ _ _ hmx0 hmx1 r0 r1 r2 r3 hk _ (by exact HU.out)).mono ?_
  rintro x w2 ⟨rfl, n2, rfl⟩
  go_wp2_with fail
  refine (nudge_any _ _ _).mono ?_
  rintro x w2 ⟨rfl, rfl⟩
  go_wp2_with fail
  refine (floor_any _ (u64r _).1 (u64r _).2 _).mono ?_
  rintro x w3 ⟨rfl, rfl⟩
  rw [show IntKind.u64.wrap (uscaleV (sfMax m e) (hi (sfI m e)) (lo (sfI m e)) (sfK m e) + -sfOdd m e) / 4 = sfHi hi lo m e from rfl]
  obtain ⟨hh0, hh1⟩ : 0 ≤ sfHi hi lo m e ∧ sfHi hi lo m e ≤ 4611686018427387903 := by
    have := u64r (uscaleV (sfMax m e) (hi (sfI m e)) (lo (sfI m e)) (sfK m e) + -sfOdd m e)
    unfold sfHi; omega
  by_cases hc1 : sfLo hi lo m e ≤ sfHi hi lo m e / 10 * 10
  · have hv : sfV hi lo m e = (sfHi hi lo m e / 10, -(sfP m e - 1)) := by unfold sfV; rw [if_pos hc1]
    have HV := Lib.hid hv
    clear hv
    go_wp2
    go_ret2
    rw [HV.out]
    exact ⟨rfl, below_drewN (below_of_new HG.out) _⟩
  · by_cases hc2 : sfLo hi lo m e < sfHi hi lo m e
    · have hv : sfV hi lo m e = (sfMid hi lo m e, -sfP m e) := by unfold sfV; rw [if_neg hc1, if_pos hc2]
      have HV := Lib.hid hv
      clear hv
      go_wp2_with fail
      refine (uscale_any _ _ _ _ _ hm0 hm1 r0 r1 r2 r3 hk _ (by exact HU.out)).mono ?_
      rintro x w2 ⟨rfl, n3, rfl⟩
      go_wp2_with fail
      refine (round_any _ (uscaleV_r _ _ _ _).1 (uscaleV_r _ _ _ _).2 _).mono ?_
      rintro x w3 ⟨rfl, n4, rfl⟩
      go_wp2
      go_ret2
      rw [HV.out]
      exact ⟨rfl, below_drewN (below_of_new HG.out) _⟩
    · have hv : sfV hi lo m e = (sfLo hi lo m e, -sfP m e) := by unfold sfV; rw [if_neg hc1, if_neg hc2]
      have HV := Lib.hid hv
      clear hv
      go_wp2
      go_ret2
      rw [HV.out]
      exact ⟨rfl, below_drewN (below_of_new HG.out) _⟩

set_option maxHeartbeats 2000000 in
theorem shortFloat_C (m e : Int) (hi lo : Nat → Int) (hm0 : 0 ≤ m) (hm1 : m ≤ 18446744073709551615) (he0 : -1137 ≤ e) (he1 : e < -1085) (hmb : (m == 9223372036854775808) = false) (w : World) (ht : Pow10 w hi lo) (hr : TabR hi lo) (hw : 7 ≤ w.heap.size) :
    Calls Tryz.prog 161 #[.int .u64 m, .int .i64 e] w fun x w' => x = .returned (.tuple #[.int .u64 (sfV hi lo m e).1, .int .i64 (sfV hi lo m e).2]) ∧ Below w.heap.size w w' := by
  obtain ⟨p0, p1, k0, k1, z0, z1⟩ := sf_bounds m e (by omega) (by omega)
  have hP : -((e + (11 + (-1085 - e))) * 78913 / 262144) = sfP m e := by
    unfold sfP sfZ
    rw [if_neg (by omega), if_neg (by omega)]
  have hMn : IntKind.u64.wrap (m - IntKind.u64.wrap (2 ^ ((11 + (-1085 - e)).toNat - 1))) = sfMin m e := by
    unfold sfMin sfZ
    rw [if_neg (by omega), if_neg (by omega), wrap_pow2 _ (by omega), show (11 + (-1085 - e) - 1).toNat = (11 + (-1085 - e)).toNat - 1 by omega]
  have hMx : IntKind.u64.wrap (m + IntKind.u64.wrap (2 ^ ((11 + (-1085 - e)).toNat - 1))) = sfMax m e := by
    unfold sfMax sfZ
    rw [if_neg (by omega), wrap_pow2 _ (by omega), show (11 + (-1085 - e) - 1).toNat = (11 + (-1085 - e)).toNat - 1 by omega]
  have hOd : bits BinOp.and IntKind.i64 (wrap64 (m / 2 ^ (11 + (-1085 - e)).toNat)) 1 = sfOdd m e := by
    unfold sfOdd sfZ
    rw [if_neg (by omega)]
    obtain ⟨q0, q1⟩ := div_pow2 m (11 + (-1085 - e)).toNat hm0 hm1 (by omega)
    generalize m / 2 ^ (11 + (-1085 - e)).toNat = q at *
    rw [show wrap64 q = q by unfold wrap64; omega]
    exact i64_and1 q q0 q1
  have hod : 0 ≤ sfOdd m e ∧ sfOdd m e ≤ 1 := by unfold sfOdd; omega
  have hK : -(e + sfP m e * 108853 / 32768 + 3) = ((sfK m e : Nat) : Int) := by unfold sfK; omega
  have hk : sfK m e ≤ 63 := by omega
  have hA := Lib.hid hP
  have hB := Lib.hid hMn
  have hC := Lib.hid hMx
  have hD := Lib.hid hOd
  have hE := Lib.hid hK
  have hmn : 0 ≤ sfMin m e ∧ sfMin m e ≤ 18446744073709551615 := by rw [← hMn]; exact u64r _
  have hmx : 0 ≤ sfMax m e ∧ sfMax m e ≤ 18446744073709551615 := by rw [← hMx]; exact u64r _
  clear hP hMn hMx hOd hK
  obtain ⟨hmn0, hmn1⟩ := hmn
  obtain ⟨hmx0, hmx1⟩ := hmx
  obtain ⟨hod0, hod1⟩ := hod
  obtain ⟨r0, r1, r2, r3⟩ := hr (sfI m e)
  have hbel : Below w.heap.size w w := Below.refl _ _
  go_enter Tryz.func161, Tryz.ntmps161
  go_wp2_with (first | (go_at_call 156; refine (log10Pow2_any _ (by omega) (by omega) _).mono ?_; rintro x w ⟨rfl, rfl⟩) | (go_at_call 165; refine (skewed_any _ (by omega) (by omega) _).mono ?_; rintro x w ⟨rfl, rfl⟩))
  rw [hA.out, hB.out, hC.out, hD.out]
  refine (log2Pow10_any _ (by omega) (by omega) _).mono ?_
  rintro x w ⟨rfl, rfl⟩
  go_wp2_with fail
  have hblk : Blk (w.alloc (Obj.cells #[Value.int IntKind.u64 0, Value.int IntKind.u64 0, Value.int IntKind.i64 0] 186)) w.heap.size 186 _ := Blk.new w _ _
  have hg0 : w.grownBy (w.alloc (Obj.cells #[Value.int IntKind.u64 0, Value.int IntKind.u64 0, Value.int IntKind.i64 0] 186)) (some w.heap.size) := only_alloc (World.grownBy.refl w _) _
  refine (prescale_any _ _ _ _ _ _ _ hi lo (by omega) (by omega) (by omega) (by omega) (by omega) (by omega) _ (ht.grown hg0 (by intro h; injection h; omega)) hblk (by omega)).mono ?_
  rintro x w1 ⟨rfl, hb1, hg1⟩
  have hu : uscT w1 w.heap.size (hi (sfI m e)) (lo (sfI m e)) (sfK m e) := by
    rw [hE.out] at hb1
    exact usc_of_blk hb1
  have HG := Lib.hid (hg0.trans hg1)
  clear hblk hg0 hg1 hb1
  have HU := Lib.hid hu
  clear hu
  go_wp2_with fail
  refine (uscale_any _ _ _ _ _ hmn0 hmn1 r0 r1 r2 r3 hk _ (by exact HU.out)).mono ?_
  rintro x w2 ⟨rfl, n1, rfl⟩
  go_wp2_with fail
  refine (nudge_any _ _ _).mono ?_
  rintro x w2 ⟨rfl, rfl⟩
  go_wp2_with fail
  refine (ceil_any _ _).mono ?_
  rintro x w3 ⟨rfl, rfl⟩
  rw [show IntKind.u64.wrap (IntKind.u64.wrap (uscaleV (sfMin m e) (hi (sfI m e)) (lo (sfI m e)) (sfK m e) + sfOdd m e) + 3) / 4 = sfLo hi lo m e from rfl]
  go_wp2_with fail
  refine (uscale_any _ _ _ _ _ hmx0 hmx1 r0 r1 r2 r3 hk _ (by exact HU.out)).mono ?_
  rintro x w2 ⟨rfl, n2, rfl⟩
  go_wp2_with fail
  refine (nudge_any _ _ _).mono ?_
  rintro x w2 ⟨rfl, rfl⟩
  go_wp2_with fail
  refine (floor_any _ (u64r _).1 (u64r _).2 _).mono ?_
  rintro x w3 ⟨rfl, rfl⟩
  rw [show IntKind.u64.wrap (uscaleV (sfMax m e) (hi (sfI m e)) (lo (sfI m e)) (sfK m e) + -sfOdd m e) / 4 = sfHi hi lo m e from rfl]
  obtain ⟨hh0, hh1⟩ : 0 ≤ sfHi hi lo m e ∧ sfHi hi lo m e ≤ 4611686018427387903 := by
    have := u64r (uscaleV (sfMax m e) (hi (sfI m e)) (lo (sfI m e)) (sfK m e) + -sfOdd m e)
    unfold sfHi; omega
  by_cases hc1 : sfLo hi lo m e ≤ sfHi hi lo m e / 10 * 10
  · have hv : sfV hi lo m e = (sfHi hi lo m e / 10, -(sfP m e - 1)) := by unfold sfV; rw [if_pos hc1]
    have HV := Lib.hid hv
    clear hv
    go_wp2
    go_ret2
    rw [HV.out]
    exact ⟨rfl, below_drewN (below_of_new HG.out) _⟩
  · by_cases hc2 : sfLo hi lo m e < sfHi hi lo m e
    · have hv : sfV hi lo m e = (sfMid hi lo m e, -sfP m e) := by unfold sfV; rw [if_neg hc1, if_pos hc2]
      have HV := Lib.hid hv
      clear hv
      go_wp2_with fail
      refine (uscale_any _ _ _ _ _ hm0 hm1 r0 r1 r2 r3 hk _ (by exact HU.out)).mono ?_
      rintro x w2 ⟨rfl, n3, rfl⟩
      go_wp2_with fail
      refine (round_any _ (uscaleV_r _ _ _ _).1 (uscaleV_r _ _ _ _).2 _).mono ?_
      rintro x w3 ⟨rfl, n4, rfl⟩
      go_wp2
      go_ret2
      rw [HV.out]
      exact ⟨rfl, below_drewN (below_of_new HG.out) _⟩
    · have hv : sfV hi lo m e = (sfLo hi lo m e, -sfP m e) := by unfold sfV; rw [if_neg hc1, if_neg hc2]
      have HV := Lib.hid hv
      clear hv
      go_wp2
      go_ret2
      rw [HV.out]
      exact ⟨rfl, below_drewN (below_of_new HG.out) _⟩

set_option maxHeartbeats 2000000 in
theorem shortFloat_C2 (m e : Int) (hi lo : Nat → Int) (hm0 : 0 ≤ m) (hm1 : m ≤ 18446744073709551615) (he0 : -1137 ≤ e) (he1 : e < -1085) (hmb : (m == 9223372036854775808) = true) (w : World) (ht : Pow10 w hi lo) (hr : TabR hi lo) (hw : 7 ≤ w.heap.size) :
    Calls Tryz.prog 161 #[.int .u64 m, .int .i64 e] w fun x w' => x = .returned (.tuple #[.int .u64 (sfV hi lo m e).1, .int .i64 (sfV hi lo m e).2]) ∧ Below w.heap.size w w' := by
  obtain ⟨p0, p1, k0, k1, z0, z1⟩ := sf_bounds m e (by omega) (by omega)
  have hP : -((e + (11 + (-1085 - e))) * 78913 / 262144) = sfP m e := by
    unfold sfP sfZ
    rw [if_neg (by omega), if_neg (by omega)]
  have hMn : IntKind.u64.wrap (m - IntKind.u64.wrap (2 ^ ((11 + (-1085 - e)).toNat - 1))) = sfMin m e := by
    unfold sfMin sfZ
    rw [if_neg (by omega), if_neg (by omega), wrap_pow2 _ (by omega), show (11 + (-1085 - e) - 1).toNat = (11 + (-1085 - e)).toNat - 1 by omega]
  have hMx : IntKind.u64.wrap (m + IntKind.u64.wrap (2 ^ ((11 + (-1085 - e)).toNat - 1))) = sfMax m e := by
    unfold sfMax sfZ
    rw [if_neg (by omega), wrap_pow2 _ (by omega), show (11 + (-1085 - e) - 1).toNat = (11 + (-1085 - e)).toNat - 1 by omega]
  have hOd : bits BinOp.and IntKind.i64 (wrap64 (m / 2 ^ (11 + (-1085 - e)).toNat)) 1 = sfOdd m e := by
    unfold sfOdd sfZ
    rw [if_neg (by omega)]
    obtain ⟨q0, q1⟩ := div_pow2 m (11 + (-1085 - e)).toNat hm0 hm1 (by omega)
    generalize m / 2 ^ (11 + (-1085 - e)).toNat = q at *
    rw [show wrap64 q = q by unfold wrap64; omega]
    exact i64_and1 q q0 q1
  have hod : 0 ≤ sfOdd m e ∧ sfOdd m e ≤ 1 := by unfold sfOdd; omega
  have hK : -(e + sfP m e * 108853 / 32768 + 3) = ((sfK m e : Nat) : Int) := by unfold sfK; omega
  have hk : sfK m e ≤ 63 := by omega
  have hA := Lib.hid hP
  have hB := Lib.hid hMn
  have hC := Lib.hid hMx
  have hD := Lib.hid hOd
  have hE := Lib.hid hK
  have hmn : 0 ≤ sfMin m e ∧ sfMin m e ≤ 18446744073709551615 := by rw [← hMn]; exact u64r _
  have hmx : 0 ≤ sfMax m e ∧ sfMax m e ≤ 18446744073709551615 := by rw [← hMx]; exact u64r _
  clear hP hMn hMx hOd hK
  obtain ⟨hmn0, hmn1⟩ := hmn
  obtain ⟨hmx0, hmx1⟩ := hmx
  obtain ⟨hod0, hod1⟩ := hod
  obtain ⟨r0, r1, r2, r3⟩ := hr (sfI m e)
  have hbel : Below w.heap.size w w := Below.refl _ _
  go_enter Tryz.func161, Tryz.ntmps161
  go_wp2_with (first | (go_at_call 156; refine (log10Pow2_any _ (by omega) (by omega) _).mono ?_; rintro x w ⟨rfl, rfl⟩) | (go_at_call 165; refine (skewed_any _ (by omega) (by omega) _).mono ?_; rintro x w ⟨rfl, rfl⟩))
  rw [hA.out, hB.out, hC.out, hD.out]
  refine (log2Pow10_any _ (by omega) (by omega) _).mono ?_
  rintro x w ⟨rfl, rfl⟩
  go_wp2_with fail
  have hblk : Blk (w.alloc (Obj.cells #[Value.int IntKind.u64 0, Value.int IntKind.u64 0, Value.int IntKind.i64 0] 186)) w.heap.size 186 _ := Blk.new w _ _
  have hg0 : w.grownBy (w.alloc (Obj.cells #[Value.int IntKind.u64 0, Value.int IntKind.u64 0, Value.int IntKind.i64 0] 186)) (some w.heap.size) := only_alloc (World.grownBy.refl w _) _
  refine (prescale_any _ _ _ _ _ _ _ hi lo (by omega) (by omega) (by omega) (by omega) (by omega) (by omega) _ (ht.grown hg0 (by intro h; injection h; omega)) hblk (by omega)).mono ?_
  rintro x w1 ⟨rfl, hb1, hg1⟩
  have hu : uscT w1 w.heap.size (hi (sfI m e)) (lo (sfI m e)) (sfK m e) := by
    rw [hE.out] at hb1
    exact usc_of_blk hb1
  have HG := Lib.hid (hg0.trans hg1)
  clear hblk hg0 hg1 hb1
  have HU := Lib.hid hu
  clear hu
  go_wp2_with fail
  refine (uscale_any _ _ _ _ _ hmn0 hmn1 r0 r1 r2 r3 hk _ (by exact HU.out)).mono ?_
  rintro x w2 ⟨rfl, n1, rfl⟩
  go_wp2_with fail
  refine (nudge_any _ _ _).mono ?_
  rintro x w2 ⟨rfl, rfl⟩
  go_wp2_with fail
  refine (ceil_any _ _).mono ?_
  rintro x w3 ⟨rfl, rfl⟩
  rw [show IntKind.u64.wrap (IntKind.u64.wrap (uscaleV (sfMin m e) (hi (sfI m e)) (lo (sfI m e)) (sfK m e) + sfOdd m e) + 3) / 4 = sfLo hi lo m e from rfl]
  go_wp2_with fail
  refine (uscale_any _ _ _ _ _ hmx0 hmx1 r0 r1 r2 r3 hk _ (by exact HU.out)).mono ?_
  rintro x w2 ⟨rfl, n2, rfl⟩
  go_wp2_with fail
  refine (nudge_any _ _ _).mono ?_
  rintro x w2 ⟨rfl, rfl⟩
  go_wp2_with fail
  refine (floor_any _ (u64r _).1 (u64r _).2 _).mono ?_
  rintro x w3 ⟨rfl, rfl⟩
  rw [show IntKind.u64.wrap (uscaleV (sfMax m e) (hi (sfI m e)) (lo (sfI m e)) (sfK m e) + -sfOdd m e) / 4 = sfHi hi lo m e from rfl]
  obtain ⟨hh0, hh1⟩ : 0 ≤ sfHi hi lo m e ∧ sfHi hi lo m e ≤ 4611686018427387903 := by
    have := u64r (uscaleV (sfMax m e) (hi (sfI m e)) (lo (sfI m e)) (sfK m e) + -sfOdd m e)
    unfold sfHi; omega
  by_cases hc1 : sfLo hi lo m e ≤ sfHi hi lo m e / 10 * 10
  · have hv : sfV hi lo m e = (sfHi hi lo m e / 10, -(sfP m e - 1)) := by unfold sfV; rw [if_pos hc1]
    have HV := Lib.hid hv
    clear hv
    go_wp2
    go_ret2
    rw [HV.out]
    exact ⟨rfl, below_drewN (below_of_new HG.out) _⟩
  · by_cases hc2 : sfLo hi lo m e < sfHi hi lo m e
    · have hv : sfV hi lo m e = (sfMid hi lo m e, -sfP m e) := by unfold sfV; rw [if_neg hc1, if_pos hc2]
      have HV := Lib.hid hv
      clear hv
      go_wp2_with fail
      refine (uscale_any _ _ _ _ _ hm0 hm1 r0 r1 r2 r3 hk _ (by exact HU.out)).mono ?_
      rintro x w2 ⟨rfl, n3, rfl⟩
      go_wp2_with fail
      refine (round_any _ (uscaleV_r _ _ _ _).1 (uscaleV_r _ _ _ _).2 _).mono ?_
      rintro x w3 ⟨rfl, n4, rfl⟩
      go_wp2
      go_ret2
      rw [HV.out]
      exact ⟨rfl, below_drewN (below_of_new HG.out) _⟩
    · have hv : sfV hi lo m e = (sfLo hi lo m e, -sfP m e) := by unfold sfV; rw [if_neg hc1, if_neg hc2]
      have HV := Lib.hid hv
      clear hv
      go_wp2
      go_ret2
      rw [HV.out]
      exact ⟨rfl, below_drewN (below_of_new HG.out) _⟩

theorem shortFloat_any (m e : Int) (hi lo : Nat → Int) (hm0 : 0 ≤ m) (hm1 : m ≤ 18446744073709551615) (he0 : -1137 ≤ e) (he1 : e ≤ 960) (w : World) (ht : Pow10 w hi lo) (hr : TabR hi lo) (hw : 7 ≤ w.heap.size) :
    Calls Tryz.prog 161 #[.int .u64 m, .int .i64 e] w fun x w' => x = .returned (.tuple #[.int .u64 (sfV hi lo m e).1, .int .i64 (sfV hi lo m e).2]) ∧ Below w.heap.size w w' := by
  by_cases h : e < -1085
  · cases hb : (m == 9223372036854775808) with
    | true => exact shortFloat_C2 m e hi lo hm0 hm1 he0 h hb w ht hr hw
    | false => exact shortFloat_C m e hi lo hm0 hm1 he0 h hb w ht hr hw
  · cases hb : (m == 9223372036854775808) with
    | true =>
      by_cases h2 : -1085 < e
      · exact shortFloat_A m e hi lo hm0 hm1 h2 he1 hb w ht hr hw
      · exact shortFloat_B2 m e hi lo hm0 hm1 (by omega) (by omega) hb w ht hr hw
    | false => exact shortFloat_B m e hi lo hm0 hm1 (by omega) he1 hb w ht hr hw

end Go.Proofs.YtpbcfgehmalppaaGreatDoor
