/- A float64 as a text without an exponent, as the program writes it behind what a buffer holds. -/
import Derived.Test.YtpbcfgehmalppaaGreatDoorFtC
import Derived.Test.YtpbcfgehmalppaaGreatDoorFtE
import Derived.Laws.Externs
namespace Go.Proofs.YtpbcfgehmalppaaGreatDoor
open Go.RowKit

/-- The tables of the float writer lie where the program has laid them. -/
structure FtTabs (w : World) (hi lo : Nat → Int) : Prop where
  pow : Pow10 w hi lo
  rng : TabR hi lo
  ten : Tab10 w
  siz : 7 ≤ w.heap.size
theorem FtTabs.grown {w w' : World} {hi lo : Nat → Int} (h : FtTabs w hi lo) {row : Option Nat} (hg : w.grownBy w' row) (hne : ∀ k, k < 7 → row ≠ some k) : FtTabs w' hi lo :=
  ⟨h.pow.grown hg (hne _ (by decide)), h.rng, h.ten.grown hg (hne _ (by decide)), Nat.le_trans h.siz hg.size⟩
theorem FtTabs.below {w w' : World} {hi lo : Nat → Int} (h : FtTabs w hi lo) (hb : Below w.heap.size w w') : FtTabs w' hi lo := h.grown (only_of_below hb none) (fun _ _ => by simp)

theorem run_f64bits (b : Nat) (w : World) : (callFunc 148 #[.float .f64 b]).run Tryz.prog w = .ok (.value (.int .u64 (b : Int))) w := by
  rw [run_callFunc_extern Tryz.func148 (by kernel_rfl) (by kernel_rfl) (by kernel_rfl) (show Extern.find Tryz.f148 = some Extern.MathFloatBits.float64bits by kernel_rfl)]
  rfl

/-- The parts of a float64: its sign, its exponent field, its fraction field. -/
def sgn (b : Nat) : Bool := decide (9223372036854775808 ≤ b)
def xpo (b : Nat) : Nat := b / 4503599627370496 % 2048
def mts (b : Nat) : Nat := b % 4503599627370496

theorem grown_any {w w1 : World} (h : w.grownBy w1 none) (row : Option Nat) : w.grownBy w1 row := ⟨h.os, h.tape, h.output, h.size, fun k hk _ => h.block k hk (by simp)⟩
theorem only_from_drew {w w1 : World} {row : Option Nat} (h : w.drew.grownBy w1 row) : w.grownBy w1 row := ⟨h.os, h.tape, h.output, h.size, h.block⟩

theorem Bf.pre {w w2 w3 : World} {g : Nat} {row : Option Nat} {v : Value} {bs : List Int} (h : Bf w2 w3 row v bs) (hg : w.grownBy w2 (some g)) (hge : w.heap.size ≤ g) : Bf w w3 row v bs :=
  ⟨h.own, ⟨h.grown.os.trans hg.os, h.grown.tape.trans hg.tape, h.grown.output.trans hg.output, Nat.le_trans hg.size h.grown.size, fun k hk hne =>
    (h.grown.block k (Nat.lt_of_lt_of_le hk hg.size) hne).trans (hg.block k hk (fun e => by injection e; omega))⟩,
   h.place.imp id fun ⟨b, hb, hl⟩ => ⟨b, hb, Nat.le_trans hg.size hl⟩⟩

theorem f_sgn (b : Nat) (hb : b < 18446744073709551616) : ((b : Int) / 9223372036854775808 != 0) = sgn b := by
  unfold sgn
  by_cases h : 9223372036854775808 ≤ b
  · rw [decide_eq_true h, bne_iff_ne]; omega
  · rw [decide_eq_false h, bne_eq_false_iff_eq]; omega
theorem f_xpo (b : Nat) (hb : b < 18446744073709551616) : bits .and .i64 ((b : Int) / 4503599627370496) 2047 = (xpo b : Int) := by
  have h := i64_and_nat (b / 4503599627370496) 2047 (by omega) (by omega)
  rw [show b / 4503599627370496 &&& 2047 = b / 4503599627370496 % 2048 from Nat.and_two_pow_sub_one_eq_mod _ 11] at h
  exact h
theorem f_mts (b : Nat) (hb : b < 18446744073709551616) : bits .and .u64 (b : Int) 4503599627370495 = (mts b : Int) := by
  show IntKind.u64.wrap ((BitVec.ofInt 64 (b : Int) &&& BitVec.ofInt 64 (4503599627370495 : Int)).toNat : Int) = _
  have e1 : (BitVec.ofInt 64 (b : Int)).toNat = b := by rw [BitVec.ofInt_natCast, BitVec.toNat_ofNat]; exact Nat.mod_eq_of_lt (by omega)
  rw [BitVec.toNat_and, e1, show (BitVec.ofInt 64 (4503599627370495 : Int)).toNat = 2 ^ 52 - 1 by decide, Nat.and_two_pow_sub_one_eq_mod, u64w]
  unfold mts
  omega
theorem f_or52 (m : Nat) (h : m < 4503599627370496) : bits .or .u64 (m : Int) 4503599627370496 = ((m + 4503599627370496 : Nat) : Int) := by
  show IntKind.u64.wrap ((BitVec.ofInt 64 (m : Int) ||| BitVec.ofInt 64 (4503599627370496 : Int)).toNat : Int) = _
  have e1 : (BitVec.ofInt 64 (m : Int)).toNat = m := by rw [BitVec.ofInt_natCast, BitVec.toNat_ofNat]; exact Nat.mod_eq_of_lt (by omega)
  have e2 : m ||| 2 ^ 52 = m + 2 ^ 52 := by
    have := Nat.two_pow_add_eq_or_of_lt (i := 52) (show m < 2 ^ 52 from h) 1
    rw [Nat.mul_one] at this
    rw [Nat.or_comm]
    omega
  rw [BitVec.toNat_or, e1, show (BitVec.ofInt 64 (4503599627370496 : Int)).toNat = 2 ^ 52 by decide, e2, u64w]
  omega

theorem fmtF_any (neg : Bool) (dp : Int) (nd g : Nat) (ds : Nat → Int) (w : World) (v : Value) (bs : List Int) (ho : Own w v bs) (hd : DsAt w g nd ds) (hne : v.ownBlock ≠ some g) (hnd : nd ≤ 32) (hdp0 : -900 ≤ dp) (hdp1 : dp ≤ 900) (hl : bs.length ≤ 70368744177664) :
    Calls Tryz.prog 151 #[v, .bool neg, .slice (some ⟨g, 0, none⟩) 32 32, .int .i64 dp, .int .i64 (nd : Int), .int .i64 (max ((nd : Int) - dp) 0), .int .u8 102, .bool true] w fun e w' =>
      ∃ v', e = .returned v' ∧ Bf w w' v.ownBlock v' (bs ++ fmtV neg nd ds dp) := by
  by_cases h0 : 0 < dp
  · by_cases h1 : dp < nd
    · obtain ⟨D, rfl⟩ := Int.eq_ofNat_of_zero_le (Int.le_of_lt h0)
      rw [show max ((nd : Int) - (D : Int)) 0 = ((nd - D : Nat) : Int) by omega]
      cases neg
      · exact fmtF_P10 D nd (nd - D) g ds (by omega) (by omega) (by omega) (by omega) w v bs ho hd hne hnd hl
      · exact fmtF_P11 D nd (nd - D) g ds (by omega) (by omega) (by omega) (by omega) w v bs ho hd hne hnd hl
    · obtain ⟨Z, rfl⟩ : ∃ Z : Nat, dp = (nd : Int) + (Z : Int) := ⟨(dp - nd).toNat, by omega⟩
      rw [show max ((nd : Int) - ((nd : Int) + (Z : Int))) 0 = 0 by omega]
      cases neg
      · exact fmtF_P20 nd Z g ds (by omega) (by omega) w v bs ho hd hne hnd hl
      · exact fmtF_P21 nd Z g ds (by omega) (by omega) w v bs ho hd hne hnd hl
  · by_cases h1 : dp < nd
    · obtain ⟨Z, rfl⟩ : ∃ Z : Nat, dp = -(Z : Int) := ⟨(-dp).toNat, by omega⟩
      rw [show max ((nd : Int) - -(Z : Int)) 0 = (nd : Int) + (Z : Int) by omega]
      cases neg
      · exact fmtF_P30 nd Z g ds (by omega) (by omega) w v bs ho hd hne hnd hl
      · exact fmtF_P31 nd Z g ds (by omega) (by omega) w v bs ho hd hne hnd hl
    · obtain rfl : nd = 0 := by omega
      obtain rfl : dp = 0 := by omega
      cases neg
      · exact fmtF_P40 g 0 ds rfl w v bs ho hd hne hnd hl
      · exact fmtF_P41 g 0 ds rfl w v bs ho hd hne hnd hl

/-- A float's significand and exponent. -/
def mant (b : Nat) : Nat := if xpo b = 0 then mts b else mts b + 4503599627370496
def expo (b : Nat) : Int := (if xpo b = 0 then 1 else (xpo b : Int)) - 1023
/-- The text of a number other than 0 that is finite. -/
def finV (hi lo : Nat → Int) (neg : Bool) (mt : Nat) (ex : Int) : List Int :=
  let s : Nat := 64 - Lib.bitLen mt
  let r := sfV hi lo (IntKind.u64.wrap ((mt : Int) * 2 ^ s)) (ex - s - 52)
  let d := r.1.toNat
  fmtV neg (trimN (ndig d) d (ndig d)) (fun t => ((Lib.dg d (ndig d - 1 - t)).toNat : Int)) ((ndig d : Int) + r.2)
/-- A float64 as a text without an exponent. -/
def ftoaV (hi lo : Nat → Int) (b : Nat) : List Int :=
  if xpo b = 2047 then (if mts b = 0 then (if sgn b then [45, 73, 110, 102] else [43, 73, 110, 102]) else [78, 97, 78])
  else if mant b = 0 then (if sgn b then [45] else []) ++ [48]
  else finV hi lo (sgn b) (mant b) (expo b)

theorem sfV_r (hi lo : Nat → Int) (m e : Int) (h0 : -1137 ≤ e) (h1 : e ≤ 960) : 0 ≤ (sfV hi lo m e).1 ∧ (sfV hi lo m e).1 ≤ 18446744073709551615 ∧ -400 ≤ (sfV hi lo m e).2 ∧ (sfV hi lo m e).2 ≤ 400 := by
  obtain ⟨p0, p1, _⟩ := sf_bounds m e h0 h1
  have hhi : 0 ≤ sfHi hi lo m e ∧ sfHi hi lo m e ≤ 18446744073709551615 := by
    have := u64r (uscaleV (sfMax m e) (hi (sfI m e)) (lo (sfI m e)) (sfK m e) + -sfOdd m e)
    unfold sfHi; omega
  have hlo : 0 ≤ sfLo hi lo m e ∧ sfLo hi lo m e ≤ 18446744073709551615 := by
    have := u64r (IntKind.u64.wrap (uscaleV (sfMin m e) (hi (sfI m e)) (lo (sfI m e)) (sfK m e) + sfOdd m e) + 3)
    unfold sfLo; omega
  have hmi : 0 ≤ sfMid hi lo m e ∧ sfMid hi lo m e ≤ 18446744073709551615 := by
    have := u64r (uscaleV m (hi (sfI m e)) (lo (sfI m e)) (sfK m e) + 1 + uscaleV m (hi (sfI m e)) (lo (sfI m e)) (sfK m e) / 4 % 2)
    unfold sfMid; omega
  unfold sfV
  split
  · refine ⟨?_, ?_, ?_, ?_⟩ <;> simp only <;> omega
  · refine ⟨?_, ?_, ?_, ?_⟩ <;> simp only <;> (try split) <;> omega

set_option maxHeartbeats 8000000 in
set_option maxRecDepth 100000 in
theorem ftoa64_sub (b : Nat) (hi lo : Nat → Int) (w : World) (v : Value) (bs : List Int) (ho : Own w v bs) (ht : FtTabs w hi lo) (hb : b < 18446744073709551616) (hl : bs.length ≤ 70368744177664) (hx : xpo b = 0) (hm : mts b ≠ 0) :
    Calls Tryz.prog 145 #[v, .float .f64 b, .int .u8 102, .int .i64 (-1)] w fun e w' =>
      ∃ v', e = .returned v' ∧ Bf w w' v.ownBlock v' (bs ++ finV hi lo (sgn b) (mts b) (-1022)) := by
  obtain ⟨i0, hi0, hz0, hz1, hz2⟩ := info_parts info_u8
  have hbits := run_f64bits b
  have f1 := f_sgn b hb
  have f2 := f_xpo b hb
  have f3 := f_mts b hb
  rw [hx] at f2
  have hmb : ((mts b : Int) == 0) = false := by rw [beq_eq_false_iff_ne]; omega
  have hmt : mts b < 4503599627370496 := by unfold mts; omega
  have hms := bitLen_spec' (mts b) (by omega)
  have hml : Lib.bitLen (mts b) ≤ 52 := Lib.bitLen_le _ 52 (by omega) (by simpa using hmt)
  have hm1 : 1 ≤ Lib.bitLen (mts b) := (hms.2 hm).2
  generalize hM : mts b = M at *
  clear hx hm hms hM
  generalize hS : sgn b = S at *
  clear hS
  go_enter Tryz.func145, Tryz.ntmps145
  go_wp2_with fail
  go_quiet (fail)
  go_wp2_with fail
  have hblk : Blk ((w.drewN nq).alloc (Obj.cells (List.replicate 32 (Value.int IntKind.u8 0)).toArray 168)) w.heap.size 168 (List.replicate 32 (Value.int IntKind.u8 0)).toArray := Blk.new (w.drewN nq) _ _
  have hg0 : w.grownBy ((w.drewN nq).alloc (Obj.cells (List.replicate 32 (Value.int IntKind.u8 0)).toArray 168)) none := only_alloc (only_drewN (World.grownBy.refl w _) _) _
  have HB := Lib.hid hblk
  have HG := Lib.hid hg0
  have HO := Lib.hid ho
  have HT := Lib.hid ht
  clear hblk hg0 ho ht
  refine (Tryz.bits_Len64 _ _ (by omega) (by omega)).mono ?_
  rintro x W ⟨rfl, rfl⟩
  rw [Int.toNat_natCast]
  generalize hL : Lib.bitLen M = L at *
  obtain ⟨K, hK⟩ : ∃ K : Nat, (64 : Int) - (L : Int) = (K : Int) := ⟨64 - L, by omega⟩
  have hK1 : 12 ≤ K := by omega
  have hK2 : K ≤ 63 := by omega
  have HL := Lib.hid hL
  clear hL
  have hmin : min ((K : Int)).toNat 64 = K := by omega
  go_wp2_with fail
  have hsf := shortFloat_any (IntKind.u64.wrap ((M : Int) * 2 ^ K)) (-1022 - (K : Int) - 52) hi lo (u64r _).1 (u64r _).2 (by omega) (by omega) _ (HT.out.grown HG.out (by simp)).pow (HT.out.grown HG.out (by simp)).rng (HT.out.grown HG.out (by simp)).siz
  refine hsf.mono ?_
  rintro x w1 ⟨rfl, hb1⟩
  obtain ⟨q0, q1, q2, q3⟩ := sfV_r hi lo (IntKind.u64.wrap ((M : Int) * 2 ^ K)) (-1022 - (K : Int) - 52) (by omega) (by omega)
  generalize hR : sfV hi lo (IntKind.u64.wrap ((M : Int) * 2 ^ K)) (-1022 - (K : Int) - 52) = R at *
  obtain ⟨dI, p⟩ := R
  obtain ⟨d, rfl⟩ := Int.eq_ofNat_of_zero_le q0
  have HR := Lib.hid hR
  have hblk1 : Blk w1 w.heap.size 168 (List.replicate 32 (Value.int IntKind.u8 0)).toArray := HB.out.below hb1 HB.out.lt
  have hg1 : w.grownBy w1 none := HG.out.trans (only_of_below hb1 none)
  have HB1 := Lib.hid hblk1
  have HG1 := Lib.hid hg1
  clear hsf hb1 hR hblk1 hg1 HB HG
  go_wp2_with fail
  have hd64 : d < 18446744073709551616 := by omega
  have hT1 := HT.out.grown HG1.out (by simp)
  go_region_with (first
    | (go_at_call 155; refine (numDigits_any d hd64 _ ?_).mono ?_; exact hT1.ten; rintro e w' ⟨rfl, rfl⟩)
    | (go_at_call 154; refine (setDigits_any _ d p _ ?_ ?_ hd64 (by omega) (by omega)).mono ?_; exact fun t ht => (HB1.out.cell t).trans (by rw [List.getElem?_toArray, List.getElem?_replicate, if_pos ht]); exact fun t => HB1.out.frozen t; rintro e w2 ⟨rfl, hd2, hg2, hk2⟩))
  have hw2 : w.grownBy w2 (some w.heap.size) := (grown_any HG1.out (some w.heap.size)).trans (only_from_drew hg2)
  have hvl := HO.out.lt
  have hvne : v.ownBlock ≠ some w.heap.size := fun e => by have := (hvl _ e).2; omega
  have hown2 : Own w2 v bs := HO.out.kept hw2 (.inr hvne)
  have hds2 : DsAt w2 w.heap.size (trimN (ndig d) d (ndig d)) (fun t => ((Lib.dg d (ndig d - 1 - t)).toNat : Int)) := ⟨fun t ht => hd2 t (Nat.lt_of_lt_of_le ht (trimN_le _ _ _))⟩
  have hnd := ndig_le d hd64
  have htr := trimN_le (ndig d) d (ndig d)
  have hfin : finV hi lo S M (-1022) = fmtV S (trimN (ndig d) d (ndig d)) (fun t => ((Lib.dg d (ndig d - 1 - t)).toNat : Int)) ((ndig d : Int) + p) := by
    unfold finV
    simp only
    rw [HL.out, show 64 - L = K by omega, HR.out]
    rfl
  have HF := Lib.hid hfin
  have HW := Lib.hid hw2
  have HO2 := Lib.hid hown2
  have HD2 := Lib.hid hds2
  clear hfin hw2 hown2 hds2 hd2 hg2 hk2 hT1
  generalize ndig d = nd at *
  generalize trimN nd d nd = tr at *
  go_wp2_with fail
  refine (fmtF_any S _ tr w.heap.size _ w2 v bs HO2.out HD2.out hvne (by omega) (by omega) (by omega) hl).mono ?_
  rintro e w3 ⟨v3, rfl, h3⟩
  go_wp2
  go_ret
  refine ⟨_, rfl, ?_⟩
  rw [HF.out]
  exact h3.pre HW.out (Nat.le_refl _)

set_option maxHeartbeats 8000000 in
set_option maxRecDepth 100000 in
theorem ftoa64_norm (b : Nat) (hi lo : Nat → Int) (w : World) (v : Value) (bs : List Int) (ho : Own w v bs) (ht : FtTabs w hi lo) (hb : b < 18446744073709551616) (hl : bs.length ≤ 70368744177664) (hx : xpo b ≠ 0) (hx2 : xpo b ≠ 2047) :
    Calls Tryz.prog 145 #[v, .float .f64 b, .int .u8 102, .int .i64 (-1)] w fun e w' =>
      ∃ v', e = .returned v' ∧ Bf w w' v.ownBlock v' (bs ++ finV hi lo (sgn b) (mts b + 4503599627370496) ((xpo b : Int) - 1023)) := by
  obtain ⟨i0, hi0, hz0, hz1, hz2⟩ := info_parts info_u8
  have hbits := run_f64bits b
  have f1 := f_sgn b hb
  have f2 := f_xpo b hb
  have f3 := f_mts b hb
  have hmt : mts b < 4503599627370496 := by unfold mts; omega
  have hxt : xpo b < 2048 := by unfold xpo; omega
  have f4 := f_or52 (mts b) hmt
  have hms := bitLen_spec' (mts b + 4503599627370496) (by omega)
  have hml : Lib.bitLen (mts b + 4503599627370496) ≤ 53 := Lib.bitLen_le _ 53 (by omega) (by simp only [Nat.reducePow]; omega)
  have hm1 : 1 ≤ Lib.bitLen (mts b + 4503599627370496) := (hms.2 (by omega)).2
  have hmt2 : mts b + 4503599627370496 < 9007199254740992 := by omega
  have hmp : 0 < mts b + 4503599627370496 := by omega
  generalize hM : mts b + 4503599627370496 = M at *
  have hmb : ((M : Int) == 0) = false := by rw [beq_eq_false_iff_ne]; omega
  generalize hX : xpo b = X at *
  have hX0 : ((X : Int) == 0) = false := by rw [beq_eq_false_iff_ne]; omega
  have hX1 : ((X : Int) == 2047) = false := by rw [beq_eq_false_iff_ne]; omega
  have hX3 : 1 ≤ X := by omega
  have hX4 : X ≤ 2046 := by omega
  generalize hm0 : mts b = M0 at *
  clear hx hx2 hms hM hX hm0 hmt hxt
  generalize hS : sgn b = S at *
  clear hS
  go_enter Tryz.func145, Tryz.ntmps145
  go_wp2_with fail
  go_quiet (fail)
  go_wp2_with fail
  have hblk : Blk ((w.drewN nq).alloc (Obj.cells (List.replicate 32 (Value.int IntKind.u8 0)).toArray 168)) w.heap.size 168 (List.replicate 32 (Value.int IntKind.u8 0)).toArray := Blk.new (w.drewN nq) _ _
  have hg0 : w.grownBy ((w.drewN nq).alloc (Obj.cells (List.replicate 32 (Value.int IntKind.u8 0)).toArray 168)) none := only_alloc (only_drewN (World.grownBy.refl w _) _) _
  have HB := Lib.hid hblk
  have HG := Lib.hid hg0
  have HO := Lib.hid ho
  have HT := Lib.hid ht
  clear hblk hg0 ho ht
  refine (Tryz.bits_Len64 _ _ (by omega) (by omega)).mono ?_
  rintro x W ⟨rfl, rfl⟩
  rw [Int.toNat_natCast]
  generalize hL : Lib.bitLen M = L at *
  obtain ⟨K, hK⟩ : ∃ K : Nat, (64 : Int) - (L : Int) = (K : Int) := ⟨64 - L, by omega⟩
  have hK1 : 11 ≤ K := by omega
  have hK2 : K ≤ 63 := by omega
  have HL := Lib.hid hL
  clear hL
  have hmin : min ((K : Int)).toNat 64 = K := by omega
  go_wp2_with fail
  have hsf := shortFloat_any (IntKind.u64.wrap ((M : Int) * 2 ^ K)) ((X : Int) - 1023 - (K : Int) - 52) hi lo (u64r _).1 (u64r _).2 (by omega) (by omega) _ (HT.out.grown HG.out (by simp)).pow (HT.out.grown HG.out (by simp)).rng (HT.out.grown HG.out (by simp)).siz
  refine hsf.mono ?_
  rintro x w1 ⟨rfl, hb1⟩
  obtain ⟨q0, q1, q2, q3⟩ := sfV_r hi lo (IntKind.u64.wrap ((M : Int) * 2 ^ K)) ((X : Int) - 1023 - (K : Int) - 52) (by omega) (by omega)
  generalize hR : sfV hi lo (IntKind.u64.wrap ((M : Int) * 2 ^ K)) ((X : Int) - 1023 - (K : Int) - 52) = R at *
  obtain ⟨dI, p⟩ := R
  obtain ⟨d, rfl⟩ := Int.eq_ofNat_of_zero_le q0
  have HR := Lib.hid hR
  have hblk1 : Blk w1 w.heap.size 168 (List.replicate 32 (Value.int IntKind.u8 0)).toArray := HB.out.below hb1 HB.out.lt
  have hg1 : w.grownBy w1 none := HG.out.trans (only_of_below hb1 none)
  have HB1 := Lib.hid hblk1
  have HG1 := Lib.hid hg1
  clear hsf hb1 hR hblk1 hg1 HB HG
  go_wp2_with fail
  have hd64 : d < 18446744073709551616 := by omega
  have hT1 := HT.out.grown HG1.out (by simp)
  go_region_with (first
    | (go_at_call 155; refine (numDigits_any d hd64 _ ?_).mono ?_; exact hT1.ten; rintro e w' ⟨rfl, rfl⟩)
    | (go_at_call 154; refine (setDigits_any _ d p _ ?_ ?_ hd64 (by omega) (by omega)).mono ?_; exact fun t ht => (HB1.out.cell t).trans (by rw [List.getElem?_toArray, List.getElem?_replicate, if_pos ht]); exact fun t => HB1.out.frozen t; rintro e w2 ⟨rfl, hd2, hg2, hk2⟩))
  have hw2 : w.grownBy w2 (some w.heap.size) := (grown_any HG1.out (some w.heap.size)).trans (only_from_drew hg2)
  have hvl := HO.out.lt
  have hvne : v.ownBlock ≠ some w.heap.size := fun e => by have := (hvl _ e).2; omega
  have hown2 : Own w2 v bs := HO.out.kept hw2 (.inr hvne)
  have hds2 : DsAt w2 w.heap.size (trimN (ndig d) d (ndig d)) (fun t => ((Lib.dg d (ndig d - 1 - t)).toNat : Int)) := ⟨fun t ht => hd2 t (Nat.lt_of_lt_of_le ht (trimN_le _ _ _))⟩
  have hnd := ndig_le d hd64
  have htr := trimN_le (ndig d) d (ndig d)
  have hfin : finV hi lo S M ((X : Int) - 1023) = fmtV S (trimN (ndig d) d (ndig d)) (fun t => ((Lib.dg d (ndig d - 1 - t)).toNat : Int)) ((ndig d : Int) + p) := by
    unfold finV
    simp only
    rw [HL.out, show 64 - L = K by omega, HR.out]
    rfl
  have HF := Lib.hid hfin
  have HW := Lib.hid hw2
  have HO2 := Lib.hid hown2
  have HD2 := Lib.hid hds2
  clear hfin hw2 hown2 hds2 hd2 hg2 hk2 hT1
  generalize ndig d = nd at *
  generalize trimN nd d nd = tr at *
  go_wp2_with fail
  refine (fmtF_any S _ tr w.heap.size _ w2 v bs HO2.out HD2.out hvne (by omega) (by omega) (by omega) hl).mono ?_
  rintro e w3 ⟨v3, rfl, h3⟩
  go_wp2
  go_ret
  refine ⟨_, rfl, ?_⟩
  rw [HF.out]
  exact h3.pre HW.out (Nat.le_refl _)

set_option maxHeartbeats 1000000 in
set_option maxRecDepth 100000 in
theorem ftoa64_zero (b : Nat) (w : World) (v : Value) (bs : List Int) (ho : Own w v bs) (hb : b < 18446744073709551616) (hl : bs.length ≤ 70368744177664) (hx : xpo b = 0) (hm : mts b = 0) :
    Calls Tryz.prog 145 #[v, .float .f64 b, .int .u8 102, .int .i64 (-1)] w fun e w' =>
      ∃ v', e = .returned v' ∧ Bf w w' v.ownBlock v' (bs ++ ((if sgn b then [45] else []) ++ [48])) := by
  have h := ho.start
  have hbits := run_f64bits b
  have f1 := f_sgn b hb
  have f2 := f_xpo b hb
  have f3 := f_mts b hb
  rw [hx] at f2
  rw [hm] at f3
  clear hx hm
  generalize sgn b = S at *
  cases S <;>
  · go_enter Tryz.func145, Tryz.ntmps145
    go_wp2_with fail
    go_quiet (fail)
    go_wp2_with fail
    refine (fmtF_zero _ w _ v.ownBlock v bs (h.drewN _) hl).mono ?_
    rintro e w1 ⟨v1, rfl, h1⟩
    go_wp2
    go_ret
    exact ⟨_, rfl, h1⟩

set_option maxHeartbeats 1000000 in
set_option maxRecDepth 100000 in
theorem ftoa64_nan (b : Nat) (w : World) (v : Value) (bs : List Int) (ho : Own w v bs) (hb : b < 18446744073709551616) (hl : bs.length ≤ 70368744177664) (hx : xpo b = 2047) (hm : mts b ≠ 0) :
    Calls Tryz.prog 145 #[v, .float .f64 b, .int .u8 102, .int .i64 (-1)] w fun e w' =>
      ∃ v', e = .returned v' ∧ Bf w w' v.ownBlock v' (bs ++ [78, 97, 78]) := by
  obtain ⟨i0, hi0, hz0, hz1, hz2⟩ := info_parts info_u8
  have h := ho.start
  have hbits := run_f64bits b
  have f1 := f_sgn b hb
  have f2 := f_xpo b hb
  have f3 := f_mts b hb
  rw [hx] at f2
  have hmb : ((mts b : Int) != 0) = true := by rw [bne_iff_ne]; omega
  clear hx hm
  go_enter Tryz.func145, Tryz.ntmps145
  go_wp2_with fail
  go_quiet (fail)
  go_wp2_with (at_builtin; refine wpList_bf_append_str rfl _ _ _ _ rfl Tryz.underlying30 Tryz.underlying9 hi0 hz0 hz1 hz2 rfl rfl (Bf.drewN (by assumption) _) (by show bs.length + 3 ≤ 140737488355328; omega) ?_; intro v1 W1 h1)
  go_ret
  exact ⟨_, rfl, h1⟩

set_option maxHeartbeats 1000000 in
set_option maxRecDepth 100000 in
theorem ftoa64_inf (b : Nat) (w : World) (v : Value) (bs : List Int) (ho : Own w v bs) (hb : b < 18446744073709551616) (hl : bs.length ≤ 70368744177664) (hx : xpo b = 2047) (hm : mts b = 0) :
    Calls Tryz.prog 145 #[v, .float .f64 b, .int .u8 102, .int .i64 (-1)] w fun e w' =>
      ∃ v', e = .returned v' ∧ Bf w w' v.ownBlock v' (bs ++ (if sgn b then [45, 73, 110, 102] else [43, 73, 110, 102])) := by
  obtain ⟨i0, hi0, hz0, hz1, hz2⟩ := info_parts info_u8
  have h := ho.start
  have hbits := run_f64bits b
  have f1 := f_sgn b hb
  have f2 := f_xpo b hb
  have f3 := f_mts b hb
  rw [hx] at f2
  rw [hm] at f3
  clear hx hm
  generalize sgn b = S at *
  cases S <;>
  · go_enter Tryz.func145, Tryz.ntmps145
    go_wp2_with fail
    go_quiet (fail)
    go_wp2_with (at_builtin; refine wpList_bf_append_str rfl _ _ _ _ rfl Tryz.underlying30 Tryz.underlying9 hi0 hz0 hz1 hz2 rfl rfl (Bf.drewN (by assumption) _) (by show bs.length + 4 ≤ 140737488355328; omega) ?_; intro v1 W1 h1)
    go_ret
    exact ⟨_, rfl, h1⟩

theorem ftoa64_any (b : Nat) (hi lo : Nat → Int) (w : World) (v : Value) (bs : List Int) (ho : Own w v bs) (ht : FtTabs w hi lo) (hb : b < 18446744073709551616) (hl : bs.length ≤ 70368744177664) :
    Calls Tryz.prog 145 #[v, .float .f64 b, .int .u8 102, .int .i64 (-1)] w fun e w' =>
      ∃ v', e = .returned v' ∧ Bf w w' v.ownBlock v' (bs ++ ftoaV hi lo b) := by
  unfold ftoaV mant expo
  by_cases hx : xpo b = 2047
  · rw [if_pos hx]
    by_cases hm : mts b = 0
    · rw [if_pos hm]; exact ftoa64_inf b w v bs ho hb hl hx hm
    · rw [if_neg hm]; exact ftoa64_nan b w v bs ho hb hl hx hm
  · rw [if_neg hx]
    by_cases h0 : xpo b = 0
    · rw [if_pos h0, if_pos h0]
      by_cases hm : mts b = 0
      · rw [if_pos hm]; exact ftoa64_zero b w v bs ho hb hl h0 hm
      · rw [if_neg hm]; exact ftoa64_sub b hi lo w v bs ho ht hb hl h0 hm
    · rw [if_neg h0, if_neg h0, if_neg (by omega)]
      exact ftoa64_norm b hi lo w v bs ho ht hb hl h0 hx

end Go.Proofs.YtpbcfgehmalppaaGreatDoor
