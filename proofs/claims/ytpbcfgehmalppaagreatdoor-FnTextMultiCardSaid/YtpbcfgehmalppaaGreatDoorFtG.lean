/- The texts of numbers and places, as the package writes them. -/
import Derived.Test.YtpbcfgehmalppaaGreatDoorFtF
import Derived.Laws.BytesArg
import Derived.Deep.RegionWith
import Derived.Handy
import Derived.StillTailTactics
namespace Go.Proofs.YtpbcfgehmalppaaGreatDoor
open Go.RowKit

attribute [local go_sem] run_store_float

theorem AppendFloat_i (b : Nat) (hi lo : Nat → Int) (w : World) (v : Value) (bs : List Int) (ho : Own w v bs) (ht : FtTabs w hi lo) (hb : b < 18446744073709551616) (hl : bs.length ≤ 70368744177664) :
    Calls Tryz.prog 146 #[v, .float .f64 b, .int .u8 102, .int .i64 (-1), .int .i64 64] w fun e w' => ∃ v', e = .returned v' ∧ Bf w w' v.ownBlock v' (bs ++ ftoaV hi lo b) := by
  go_enter Tryz.func146, Tryz.ntmps146
  go_wp2_with (go_at_call 145; refine (ftoa64_any b hi lo _ _ _ ho ht hb hl).mono ?_; rintro e w' ⟨v1, rfl, h1⟩)
  go_ret
  exact ⟨_, rfl, h1⟩

theorem AppendFloat_o (b : Nat) (hi lo : Nat → Int) (w : World) (v : Value) (bs : List Int) (ho : Own w v bs) (ht : FtTabs w hi lo) (hb : b < 18446744073709551616) (hl : bs.length ≤ 70368744177664) :
    Calls Tryz.prog 143 #[v, .float .f64 b, .int .u8 102, .int .i64 (-1), .int .i64 64] w fun e w' => ∃ v', e = .returned v' ∧ Bf w w' v.ownBlock v' (bs ++ ftoaV hi lo b) := by
  go_enter Tryz.func143, Tryz.ntmps143
  go_wp2_with (go_at_call 146; refine (AppendFloat_i b hi lo _ _ _ ho ht hb hl).mono ?_; rintro e w' ⟨v1, rfl, h1⟩)
  go_ret
  exact ⟨_, rfl, h1⟩

theorem appendFloat_any (b : Nat) (hi lo : Nat → Int) (w : World) (v : Value) (bs : List Int) (ho : Own w v bs) (ht : FtTabs w hi lo) (hb : b < 18446744073709551616) (hl : bs.length ≤ 70368744177664) :
    Calls Tryz.prog 138 #[v, .float .f64 b] w fun e w' => ∃ v', e = .returned v' ∧ Bf w w' v.ownBlock v' (bs ++ ftoaV hi lo b) := by
  go_enter Tryz.func138, Tryz.ntmps138
  go_wp2_with (go_at_call 143; refine (AppendFloat_o b hi lo _ _ _ ho ht hb hl).mono ?_; rintro e w' ⟨v1, rfl, h1⟩)
  go_ret
  exact ⟨_, rfl, h1⟩

theorem own_string {P : Program} {w : World} {src dst : TypeId} {v : Value} {bs : List Int} (hs : P.underlying src = some (.slice 5)) (he : P.underlying 5 = some (.int .u8)) (hd : P.underlying dst = some .string)
    (h : Own w v bs) : (convert src dst v).run P w = .ok (.string (strOfNums bs)) w := by
  rcases h.2 with ⟨rfl, hn⟩ | ⟨g, cap, cur, rfl, _⟩
  · obtain rfl : bs = [] := List.eq_nil_of_length_eq_zero hn
    exact run_convert_bytes_nil w src 5 hs he 0 0 dst hd
  · refine run_convert_bytes_arg w src 5 hs he g 0 bs.length cap bs rfl (fun i hi => ?_) dst hd
    have hc := World.ownsRow.cells h (g := g) rfl i (.int .u8 (bs.getD i 0)) (by simp [bytesV, List.getElem?_eq_getElem hi, List.getD_eq_getElem?_getD])
    have ha : (⟨g, 0, none⟩ : Addr).add i = ⟨g, 0 + i, none⟩ := by unfold Addr.add; split <;> simp_all
    rwa [ha] at hc

set_option maxRecDepth 100000 in
theorem FormatFloat_i (b : Nat) (hi lo : Nat → Int) (w : World) (ht : FtTabs w hi lo) (hb : b < 18446744073709551616) :
    Calls Tryz.prog 141 #[.float .f64 b, .int .u8 102, .int .i64 (-1), .int .i64 64] w fun e w' => e = .returned (.string (strOfNums (ftoaV hi lo b))) ∧ Below w.heap.size w w' := by
  obtain ⟨i0, hi0, hz0, hz1, hz2⟩ := info_parts info_u8
  have hmk : ∀ W : World, (Instr.makeSlice 30 (.int .i64 0) (.int .i64 24)).run Tryz.prog W = .ok (.slice (some ⟨W.heap.size, 0, none⟩) 0 24) (W.alloc (.cells (madeCells #[.int .u8 0] 24) 5)) := fun W => by
    have h := run_make (P := Tryz.prog) W 30 5 i0 (.int .u8 0) Tryz.underlying30 hi0 hz0 .i64 .i64 0 24 (by omega) (by omega) (by rw [hz2]; omega) (by omega)
    rw [hz1] at h
    exact h
  have hmax : max (3 : Int) 24 = 24 := by omega
  have hown : Own (w.alloc (.cells (madeCells #[.int .u8 0] 24) 5)) (.slice (some ⟨w.heap.size, 0, none⟩) 0 24) [] := World.ownsRow_made w _ 24 (Nat.zero_le _) (by simp [maxLen]) (by simp [size_madeCells])
  have HO := Lib.hid hown
  have HT := Lib.hid ht
  clear hown ht
  go_enter Tryz.func141, Tryz.ntmps141
  go_wp2_with fail
  refine (ftoa64_any b hi lo _ _ [] HO.out (HT.out.grown (World.grownBy_alloc w _ none) (by simp)) hb (by simp)).mono ?_
  rintro e w1 ⟨v1, rfl, h1⟩
  have hcv := own_string (P := Tryz.prog) (src := 30) (dst := 9) Tryz.underlying30 Tryz.underlying5 Tryz.underlying9 h1.own_
  rw [List.nil_append] at hcv
  go_wp2
  go_ret
  exact ⟨rfl, h1.grown.below_new⟩

theorem WriteNumber_o (b : Nat) (hi lo : Nat → Int) (w : World) (ht : FtTabs w hi lo) (hb : b < 18446744073709551616) :
    Calls Tryz.prog 130 #[.float .f64 b, .int .u8 102, .int .i64 (-1), .int .i64 64] w fun e w' => e = .returned (.string (strOfNums (ftoaV hi lo b))) ∧ Below w.heap.size w w' := by
  go_enter Tryz.func130, Tryz.ntmps130
  go_wp2_with (go_at_call 141; refine (FormatFloat_i b hi lo _ ht hb).mono ?_; rintro e w' ⟨rfl, h1⟩)
  go_ret
  exact ⟨rfl, h1⟩

theorem WriteNumber_any (b : Nat) (hi lo : Nat → Int) (w : World) (ht : FtTabs w hi lo) (hb : b < 18446744073709551616) :
    Calls Tryz.prog 110 #[.float .f64 b] w fun e w' => e = .returned (.string (strOfNums (ftoaV hi lo b))) ∧ Below w.heap.size w w' := by
  go_enter Tryz.func110, Tryz.ntmps110
  go_wp2_with (go_at_call 130; refine (WriteNumber_o b hi lo _ ht hb).mono ?_; rintro e w' ⟨rfl, h1⟩)
  go_ret
  exact ⟨rfl, h1⟩

theorem i64_and3 (d : Int) : bits .and .i64 d 3 = d % 4 := by
  show IntKind.i64.wrap ((BitVec.ofInt 64 d &&& BitVec.ofInt 64 (3 : Int)).toNat : Int) = _
  rw [BitVec.toNat_and, show (BitVec.ofInt 64 (3 : Int)).toNat = 2 ^ 2 - 1 by decide, Nat.and_two_pow_sub_one_eq_mod, BitVec.toNat_ofInt, IntKind.wrap_i64]
  omega

theorem dimOf_any (d : Int) (w : World) : Calls Tryz.prog 54 #[.int .i64 d] w fun e w' => e = .returned (.int .u8 (d % 4)) ∧ w' = w := by
  have h := i64_and3 d
  have h0 : 0 ≤ d % 4 := by omega
  have h1 : d % 4 ≤ 3 := by omega
  generalize d % 4 = q at *
  go_enter Tryz.func54, Tryz.ntmps54
  go_wp2
  go_ret
  exact ⟨rfl, rfl⟩

theorem fmtV_len (neg : Bool) (nd : Nat) (ds : Nat → Int) (dp : Int) (h : nd ≤ 20) (h0 : -500 ≤ dp) (h1 : dp ≤ 500) : (fmtV neg nd ds dp).length ≤ 1900 := by
  unfold fmtV
  rw [List.length_append, List.length_append]
  have e1 : (if neg then [45] else ([] : List Int)).length ≤ 1 := by cases neg <;> simp
  have e2 : (if 0 < dp then (List.range (min nd dp.toNat)).map ds ++ List.replicate (dp.toNat - min nd dp.toNat) 48 else ([48] : List Int)).length ≤ 600 := by
    split
    · simp only [List.length_append, List.length_map, List.length_range, List.length_replicate]; omega
    · simp
  have e3 : (if dp < nd then (46 :: (List.replicate (-dp).toNat 48 ++ (List.range (nd - dp.toNat)).map fun i => ds (dp.toNat + i)) : List Int) else []).length ≤ 600 := by
    split
    · simp only [List.length_cons, List.length_append, List.length_map, List.length_range, List.length_replicate]; omega
    · simp
  omega

theorem ftoaV_len (hi lo : Nat → Int) (b : Nat) (hb : b < 18446744073709551616) : (ftoaV hi lo b).length ≤ 1900 := by
  unfold ftoaV
  split
  · split
    · split <;> simp
    · simp
  · split
    · split <;> simp
    · rename_i hm
      have hx : xpo b < 2048 := by unfold xpo; omega
      have hmm : mts b < 4503599627370496 := by unfold mts; omega
      have hmt : mant b < 9007199254740992 := by unfold mant; split <;> omega
      have hL := Lib.bitLen_le (mant b) 53 (by omega) (by simp only [Nat.reducePow]; omega)
      have hs := bitLen_spec' (mant b) (by omega)
      have hL1 := (hs.2 hm).2
      have he : -1022 ≤ expo b ∧ expo b ≤ 1023 := by unfold expo; split <;> omega
      unfold finV
      obtain ⟨q0, q1, q2, q3⟩ := sfV_r hi lo (IntKind.u64.wrap ((mant b : Int) * 2 ^ (64 - Lib.bitLen (mant b)))) (expo b - ((64 - Lib.bitLen (mant b) : Nat) : Int) - 52) (by omega) (by omega)
      simp only
      have hd := ndig_le (sfV hi lo (IntKind.u64.wrap ((mant b : Int) * 2 ^ (64 - Lib.bitLen (mant b)))) (expo b - ((64 - Lib.bitLen (mant b) : Nat) : Int) - 52)).1.toNat (by omega)
      exact fmtV_len _ _ _ _ (Nat.le_trans (trimN_le _ _ _) hd) (by omega) (by omega)

theorem is3D_any (t : Int) (b : Bool) (h : (t = 0 ∧ b = false) ∨ (t = 1 ∧ b = true) ∨ (t = 2 ∧ b = false) ∨ (t = 3 ∧ b = true)) (w : World) :
    Calls Tryz.prog 139 #[.int .u8 t] w fun e w' => e = .returned (.bool b) ∧ w' = w := by
  rcases h with ⟨rfl, rfl⟩ | ⟨rfl, rfl⟩ | ⟨rfl, rfl⟩ | ⟨rfl, rfl⟩ <;>
  · go_enter Tryz.func139, Tryz.ntmps139
    go_wp2
    go_ret
    exact ⟨rfl, rfl⟩

theorem isM_any (t : Int) (b : Bool) (h : (t = 0 ∧ b = false) ∨ (t = 1 ∧ b = false) ∨ (t = 2 ∧ b = true) ∨ (t = 3 ∧ b = true)) (w : World) :
    Calls Tryz.prog 140 #[.int .u8 t] w fun e w' => e = .returned (.bool b) ∧ w' = w := by
  rcases h with ⟨rfl, rfl⟩ | ⟨rfl, rfl⟩ | ⟨rfl, rfl⟩ | ⟨rfl, rfl⟩ <;>
  · go_enter Tryz.func140, Tryz.ntmps140
    go_wp2
    go_ret
    exact ⟨rfl, rfl⟩

end Go.Proofs.YtpbcfgehmalppaaGreatDoor
