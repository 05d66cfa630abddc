/- The digits of a whole number, laid into a row of bytes, and how many of them are left without the zeros at the end. -/
import Derived.Test.YtpbcfgehmalppaaGreatDoorFtB
import Derived.Test.YtpbcfgehmalppaaGreatDoorSh
import Derived.LoopTactic
import Derived.Deep.LoopGhost
namespace Go.Proofs.YtpbcfgehmalppaaGreatDoor
open Go.RowKit

/-- The powers of ten as uint64s. -/
def Tab10 (w : World) : Prop := ∀ i : Nat, i < 20 → w.cell? ⟨2, i, none⟩ = some (.int .u64 ((10 ^ i : Nat) : Int))
theorem Tab10.grown {w w' : World} (h : Tab10 w) {row : Option Nat} (hg : w.grownBy w' row) (hne : row ≠ some 2) : Tab10 w' := fun i hi =>
  hg.cell (h i hi) (fun e => hne e.symm)

theorem bool2i_any (b : Bool) (w : World) :
    Calls Tryz.prog 174 #[.bool b] w fun e w' => e = .returned (.int .i64 (b2i b)) ∧ w' = w := by
  cases b <;>
  · go_enter Tryz.func174, Tryz.ntmps174
    go_wp2
    go_ret
    exact ⟨rfl, rfl⟩

theorem b2i_r (b : Bool) : 0 ≤ b2i b ∧ b2i b ≤ 1 := by cases b <;> decide

/-- How many decimal digits a number has (0 of 0). -/
def ndig (d : Nat) : Nat := Lib.bitLen d * 78913 / 262144 + (b2i (decide (10 ^ (Lib.bitLen d * 78913 / 262144) ≤ d))).toNat

theorem bitLenAux_spec : ∀ (f x : Nat), x < 2 ^ f → x < 2 ^ Lib.bitLenAux f x ∧ (x ≠ 0 → 2 ^ (Lib.bitLenAux f x - 1) ≤ x ∧ 1 ≤ Lib.bitLenAux f x)
  | 0, x, h => by
    have : x = 0 := by simpa using h
    subst this
    simp [Lib.bitLenAux]
  | f + 1, x, h => by
    unfold Lib.bitLenAux
    by_cases h0 : x = 0
    · subst h0; simp
    · rw [if_neg h0]
      have hh : x / 2 < 2 ^ f := by rw [Nat.pow_succ] at h; omega
      obtain ⟨a, b⟩ := bitLenAux_spec f (x / 2) hh
      have e : 1 + Lib.bitLenAux f (x / 2) = Lib.bitLenAux f (x / 2) + 1 := by omega
      refine ⟨by rw [e, Nat.pow_succ]; omega, fun _ => ⟨?_, by omega⟩⟩
      rw [show 1 + Lib.bitLenAux f (x / 2) - 1 = Lib.bitLenAux f (x / 2) by omega]
      by_cases h1 : x / 2 = 0
      · rw [h1]
        have : Lib.bitLenAux f 0 = 0 := by cases f <;> simp [Lib.bitLenAux]
        rw [this]
        simp
        omega
      · obtain ⟨c, d⟩ := b h1
        have e2 : Lib.bitLenAux f (x / 2) = (Lib.bitLenAux f (x / 2) - 1) + 1 := by omega
        rw [e2, Nat.pow_succ]
        omega

theorem bitLen_spec' (d : Nat) (h : d < 18446744073709551616) : d < 2 ^ Lib.bitLen d ∧ (d ≠ 0 → 2 ^ (Lib.bitLen d - 1) ≤ d ∧ 1 ≤ Lib.bitLen d) := bitLenAux_spec 64 d h

theorem bitLen_64 (d : Nat) (h : d < 18446744073709551616) : Lib.bitLen d ≤ 64 := Lib.bitLen_le d 64 (by omega) (by simpa using h)

theorem ndig_lt (d : Nat) (h : d < 18446744073709551616) : d < 10 ^ ndig d := by
  have hb := bitLen_64 d h
  have h1 := (bitLen_spec' d h).1
  have hall : ∀ b : Nat, b ≤ 64 → 2 ^ b ≤ 10 ^ (b * 78913 / 262144 + 1) := by decide +kernel
  have h2 := hall _ hb
  unfold ndig
  by_cases hc : 10 ^ (Lib.bitLen d * 78913 / 262144) ≤ d
  · rw [decide_eq_true hc]
    have : (b2i true).toNat = 1 := rfl
    rw [this]
    omega
  · rw [decide_eq_false hc]
    have : (b2i false).toNat = 0 := rfl
    rw [this]
    simp only [Nat.add_zero]
    omega

theorem ndig_le (d : Nat) (h : d < 18446744073709551616) : ndig d ≤ 20 := by
  have hb := bitLen_64 d h
  have := b2i_r (decide (10 ^ (Lib.bitLen d * 78913 / 262144) ≤ d))
  unfold ndig
  omega

theorem numDigits_any (d : Nat) (h : d < 18446744073709551616) (w : World) (ht : Tab10 w) :
    Calls Tryz.prog 155 #[.int .u64 (d : Int)] w fun e w' => e = .returned (.int .i64 (ndig d : Int)) ∧ w' = w := by
  have hb := bitLen_64 d h
  have hl : Lib.bitLen d * 78913 / 262144 < 20 := by omega
  have hcell := ht _ hl
  have hd0 : (0 : Int) ≤ d := by omega
  have hd1 : (d : Int) ≤ 18446744073709551615 := by omega
  have hfin : ((ndig d : Nat) : Int) = ((Lib.bitLen d * 78913 / 262144 : Nat) : Int) + b2i (decide (((10 ^ (Lib.bitLen d * 78913 / 262144) : Nat) : Int) ≤ (d : Int))) := by
    have := b2i_r (decide (10 ^ (Lib.bitLen d * 78913 / 262144) ≤ d))
    have e : decide (((10 ^ (Lib.bitLen d * 78913 / 262144) : Nat) : Int) ≤ (d : Int)) = decide (10 ^ (Lib.bitLen d * 78913 / 262144) ≤ d) := by
      rw [decide_eq_decide]; exact Int.ofNat_le
    rw [e]
    unfold ndig
    omega
  have HF := Lib.hid hfin
  clear hfin ht
  generalize hb' : Lib.bitLen d = b at *
  have HB := Lib.hid hb'
  clear hb'
  go_enter Tryz.func155, Tryz.ntmps155
  go_wp2_with fail
  refine (Tryz.bits_Len64 _ _ hd0 hd1).mono ?_
  rintro x w ⟨rfl, rfl⟩
  rw [Int.toNat_natCast, HB.out]
  go_wp2_with fail
  refine (log10Pow2_any _ (by omega) (by omega) _).mono ?_
  rintro x w ⟨rfl, rfl⟩
  rw [show (b : Int) * 78913 / 262144 = ((b * 78913 / 262144 : Nat) : Int) from by omega]
  go_wp2_with (go_at_call 174; refine (bool2i_any _ _).mono ?_; rintro x w ⟨rfl, rfl⟩)
  go_ret
  refine ⟨?_, rfl⟩
  rw [HF.out]
  have hq := b2i_r (decide (((10 ^ (b * 78913 / 262144) : Nat) : Int) ≤ (d : Int)))
  show Ending.returned (Value.int IntKind.i64 (wrap64 ((b : Int) * 78913 / 262144 + b2i (decide ((10 : Int) ^ (b * 78913 / 262144) ≤ (d : Int)))))) = _
  rw [show ((10 : Int) ^ (b * 78913 / 262144)) = ((10 ^ (b * 78913 / 262144) : Nat) : Int) from by simp]
  rw [show (b : Int) * 78913 / 262144 = ((b * 78913 / 262144 : Nat) : Int) from by omega]
  congr 2
  unfold wrap64
  omega

def u8v (b : UInt8) : Value := .int .u8 (b.toNat : Int)

/-- The digits of u stand in the first n cells of block g. -/
def DigAt (w : World) (g n u : Nat) : Prop := ∀ t, t < n → w.cell? ⟨g, t, none⟩ = some (.int .u8 ((Lib.dg u (n - 1 - t)).toNat : Int))

theorem putRow_grown {enc : UInt8 → Value} {w : World} {g : Nat} (d : Array UInt8) (n : Nat) : w.grownBy ((Go.Sort.putRow enc w g 0 d).drewN n) (some g) := by
  refine ⟨rfl, rfl, rfl, by simp, fun k hk hne => ?_⟩
  show (Go.Sort.putRow enc w g 0 d).heap[k]? = w.heap[k]?
  simp only [Go.Sort.putRow, Go.Sort.mapBlock]
  rw [Array.getElem?_modify, if_neg (by rintro rfl; exact hne rfl)]

theorem formatBase10_own (g cap n u : Nat) (w : World) (hc : ∀ t, t < n → w.cell? ⟨g, t, none⟩ = some (.int .u8 0)) (hf : ∀ t, w.frozen? ⟨g, t, none⟩ = false) (hu : u < 10 ^ n) (hu64 : u < 18446744073709551616) (hn : n < 4611686018427387904) :
    Calls Tryz.prog 173 #[.slice (some ⟨g, 0, none⟩) n cap, .int .u64 (u : Int)] w fun e w' =>
      e = .returned (.tuple #[]) ∧ DigAt w' g n u ∧ w.grownBy w' (some g) ∧ (∀ t, n ≤ t → w'.cell? ⟨g, t, none⟩ = w.cell? ⟨g, t, none⟩) := by
  have hH : Go.Sort.Holds (fun (b : UInt8) => Value.int .u8 (b.toNat : Int)) w g 0 (Array.replicate n (0 : UInt8)) := by
    intro j hj
    have hj' : j < n := by simpa using hj
    rw [Nat.zero_add]
    refine ⟨?_, hf j⟩
    rw [hc j hj', getElem!_pos _ j (by simpa using hj')]
    simp
  have h := Tryz.internal_strconv_formatBase10 g 0 cap u (Array.replicate n 0) w hH (by simpa using hu) hu64 (by simpa using hn)
  rw [Array.size_replicate] at h
  refine h.mono ?_
  rintro e w' ⟨rfl, k, v', dk, rfl, hI⟩
  have hs : dk.size = (Array.replicate n (0 : UInt8)).size := by rw [hI.size]; simp
  refine ⟨rfl, fun t ht => ?_, putRow_grown _ _, fun t ht => ?_⟩
  · have hh := (Go.Sort.holds_putRow (fun (b : UInt8) => Value.int .u8 (b.toNat : Int)) w g 0 _ dk hH hs t (by rw [hI.size]; exact ht)).1
    rw [Nat.zero_add] at hh
    rw [← hI.done t (Nat.zero_le _) ht]
    exact hh
  · exact Go.Sort.cell?_putRow_other _ w g 0 dk ⟨g, t, none⟩ (.inr (.inr (by rw [hI.size, Nat.zero_add]; exact ht)))

/-- How many of the first k of n digits are left without zeros at the end. -/
def trimN (n u : Nat) : Nat → Nat
  | 0 => 0
  | k + 1 => if ((Lib.dg u (n - 1 - k)).toNat : Int) = 48 then trimN n u k else k + 1
theorem trimN_le (n u : Nat) : ∀ k, trimN n u k ≤ k
  | 0 => Nat.le_refl _
  | k + 1 => by
    unfold trimN
    split
    · exact Nat.le_succ_of_le (trimN_le n u k)
    · exact Nat.le_refl _

set_option maxHeartbeats 1000000 in
theorem setDigits_any (g u : Nat) (p : Int) (w : World) (hc : ∀ t, t < 32 → w.cell? ⟨g, t, none⟩ = some (.int .u8 0)) (hf : ∀ t, w.frozen? ⟨g, t, none⟩ = false) (hu64 : u < 18446744073709551616) (hp0 : -1000 ≤ p) (hp1 : p ≤ 1000) :
    Calls Tryz.prog 154 #[.slice (some ⟨g, 0, none⟩) 32 32, .int .u64 (u : Int), .int .i64 p, .int .i64 (ndig u : Int)] w fun e w' =>
      e = .returned (.tuple #[.int .i64 ((ndig u : Int) + p), .int .i64 (trimN (ndig u) u (ndig u) : Int)]) ∧ DigAt w' g (ndig u) u ∧ w.grownBy w' (some g) ∧ (∀ t, ndig u ≤ t → w'.cell? ⟨g, t, none⟩ = w.cell? ⟨g, t, none⟩) := by
  have hlt := ndig_lt u hu64
  have hle := ndig_le u hu64
  generalize hn : ndig u = n at *
  have HN := Lib.hid hn
  have HC := Lib.hid hc
  have HF := Lib.hid hf
  have HL := Lib.hid hlt
  clear hn hc hf hlt
  go_enter Tryz.func154, Tryz.ntmps154
  go_wp2_with fail
  refine (formatBase10_own g _ n u w (fun t ht => HC.out t (by omega)) HF.out HL.out hu64 (by omega)).mono ?_
  rintro e w1 ⟨rfl, hd, hg, hk⟩
  have HD := Lib.hid hd
  have HG := Lib.hid hg
  have HK := Lib.hid hk
  clear hd hg hk
  go_wp2
  go_loop [3] (fun x => ∃ k : Nat, k ≤ n ∧ x = .int .i64 k ∧ Hid (trimN n u k = trimN n u n)) (fun x => (intOf x).toNat)
  case atStart => exact ⟨n, Nat.le_refl _, rfl, rfl⟩
  case round =>
    obtain ⟨k, hk, rfl, HT⟩ := hrel
    rcases k with _ | k
    · have ht : trimN n u n = 0 := HT.out.symm
      go_wp2
      go_ret2
      exact ⟨rfl, HD.out, HG.out, HK.out⟩
    · have hcell := HD.out k (by omega)
      by_cases h48 : ((Lib.dg u (n - 1 - k)).toNat : Int) = 48
      · have ht : Hid (trimN n u k = trimN n u n) := by
          have h1 : trimN n u (k + 1) = trimN n u k := by rw [trimN, if_pos h48]
          exact h1.symm.trans HT.out
        have hb : (((Lib.dg u (n - 1 - k)).toNat : Int) == 48) = true := by simpa using h48
        clear h48 HT
        go_wp2
        exact ⟨⟨k, by omega, rfl, ht⟩, by simp [intOf]⟩
      · have ht : trimN n u n = k + 1 := by
          have h1 : trimN n u (k + 1) = k + 1 := by rw [trimN, if_neg h48]
          exact HT.out.symm.trans h1
        have hb : (((Lib.dg u (n - 1 - k)).toNat : Int) == 48) = false := by simpa using h48
        have HU := Lib.hid ht
        clear h48 HT ht
        go_wp2
        go_ret2
        rw [HU.out]
        exact ⟨rfl, HD.out, HG.out, HK.out⟩

end Go.Proofs.YtpbcfgehmalppaaGreatDoor
