/- The form of a float without an exponent, written behind what a buffer holds. -/
import Derived.Test.YtpbcfgehmalppaaGreatDoorFtD
import Derived.LoopTactic
import Derived.Deep.LoopGhost
import Derived.Outline
import Derived.Lib.MinMax
namespace Go.Proofs.YtpbcfgehmalppaaGreatDoor
open Go.RowKit

theorem len_app (a b : List Int) : (a ++ b).length = a.length + b.length := List.length_append

set_option maxHeartbeats 2000000 in
set_option maxRecDepth 100000 in
theorem fmtF_zero (neg : Bool) (w0 w : World) (row : Option Nat) (v : Value) (bs : List Int) (h : Bf w0 w row v bs) (hl : bs.length ≤ 70368744177664) :
    Calls Tryz.prog 151 #[v, .bool neg, .slice none 0 0, .int .i64 0, .int .i64 0, .int .i64 (-1), .int .u8 102, .bool true] w fun e w' =>
      ∃ v', e = .returned v' ∧ Bf w0 w' row v' (bs ++ ((if neg then [45] else []) ++ [48])) := by
  obtain ⟨i0, hi0, hz0, hz1, hz2⟩ := info_parts info_u8
  cases neg
  · go_enter Tryz.func151, Tryz.ntmps151
    go_wp2_with (at_builtin; refine wpList_bf_append1 rfl _ _ _ rfl Tryz.underlying30 hi0 hz0 hz1 hz2 rfl rfl (by assumption) (by omega) ?_; intro v1 W1 h1)
    go_ret
    exact ⟨_, rfl, by simpa using h1⟩
  · go_enter Tryz.func151, Tryz.ntmps151
    go_wp2_with (at_builtin; refine wpList_bf_append1 rfl _ _ _ rfl Tryz.underlying30 hi0 hz0 hz1 hz2 rfl rfl (by assumption) (by first | omega | (simp only [len_app, List.length_cons, List.length_nil]; omega)) ?_; intro v1 W1 h1)
    go_ret
    exact ⟨_, rfl, by simpa using h1⟩

/-- A float's text without an exponent: nd digits ds, the point behind the first dp of them. -/
def fmtV (neg : Bool) (nd : Nat) (ds : Nat → Int) (dp : Int) : List Int :=
  (if neg then [45] else []) ++
  ((if 0 < dp then (List.range (min nd dp.toNat)).map ds ++ List.replicate (dp.toNat - min nd dp.toNat) 48 else [48]) ++
   (if dp < nd then 46 :: (List.replicate (-dp).toNat 48 ++ (List.range (nd - dp.toNat)).map fun i => ds (dp.toNat + i)) else []))

def Own (w : World) (v : Value) (bs : List Int) : Prop := w.ownsRow 0 5 1 v bs.length (bytesV bs)
theorem Own.start {w : World} {v : Value} {bs : List Int} (h : Own w v bs) : Bf w w v.ownBlock v bs := Bf.start h
theorem Bf.own_ {w0 w : World} {row : Option Nat} {v : Value} {bs : List Int} (h : Bf w0 w row v bs) : Own w v bs := h.own
theorem Bf.trans {w0 W W1 : World} {row : Option Nat} {v v1 : Value} {bs bs1 : List Int} (h : Bf w0 W row v bs) (k : Bf W W1 v.ownBlock v1 bs1) : Bf w0 W1 row v1 bs1 := h.step k.grown k.own k.place

/-- The digits lie in block g, which is not the buffer's. -/
structure DsAt (w : World) (g nd : Nat) (ds : Nat → Int) : Prop where
  cell : ∀ t, t < nd → w.cell? ⟨g, t, none⟩ = some (.int .u8 (ds t))
theorem DsAt.grown {w w' : World} {g nd : Nat} {ds : Nat → Int} (h : DsAt w g nd ds) {row : Option Nat} (hg : w.grownBy w' row) (hne : row ≠ some g) : DsAt w' g nd ds :=
  ⟨fun t ht => hg.cell (h.cell t ht) (fun e => hne e.symm)⟩


theorem range_snoc (pre : List Int) (f : Nat → Int) (k : Nat) : pre ++ (List.range (k + 1)).map f = (pre ++ (List.range k).map f) ++ [f k] := by
  rw [List.range_succ, List.map_append, List.append_assoc]; rfl
theorem rep_snoc (pre : List Int) (x : Int) (k : Nat) : pre ++ List.replicate (k + 1) x = (pre ++ List.replicate k x) ++ [x] := by
  rw [List.replicate_succ', List.append_assoc]

/- CASES -/

set_option maxHeartbeats 4000000 in
set_option maxRecDepth 100000 in
theorem fmtF_P10 (D nd E g : Nat) (ds : Nat → Int) (hD0 : 0 < D) (hD1 : D ≤ 1000) (hE : nd = D + E) (hE0 : 0 < E) (w : World) (v : Value) (bs : List Int) (ho : Own w v bs) (hd : DsAt w g nd ds) (hne : v.ownBlock ≠ some g) (hnd : nd ≤ 32) (hl : bs.length ≤ 70368744177664) :
    Calls Tryz.prog 151 #[v, .bool false, .slice (some ⟨g, 0, none⟩) 32 32, .int .i64 (D : Int), .int .i64 (nd : Int), .int .i64 (E : Int), .int .u8 102, .bool true] w fun e w' =>
      ∃ v', e = .returned v' ∧ Bf w w' v.ownBlock v' (bs ++ fmtV false nd ds (D : Int)) := by
  obtain ⟨i0, hi0, hz0, hz1, hz2⟩ := info_parts info_u8
  have h := ho.start
  have HD := Lib.hid hd
  clear ho hd
  have hmin3 : min (nd : Int) (D : Int) = D := by omega
  have hmax : max 0 (-(D : Int)) = 0 := by omega
  have hmin2 : min (E : Int) 0 = 0 := by omega
  have hmax2 : max 0 ((nd : Int) - D) = E := by omega
  have hDn : (D : Int) ≤ nd := by omega
  have HE := Lib.hid hE
  clear hE
  go_enter Tryz.func151, Tryz.ntmps151
  go_wp2_with (at_builtin; refine wpList_bf_append1 rfl _ _ _ rfl Tryz.underlying30 hi0 hz0 hz1 hz2 rfl rfl (by assumption) (by first | omega | (simp only [len_app, List.length_cons, List.length_nil, List.length_map, List.length_range, List.length_replicate]; omega)) ?_; intro v1 W1 h1)
  go_loopw [0, 191] (fun u x wr => ∃ k : Nat, k ≤ D ∧ x = .int .i64 k ∧ Bf w wr v.ownBlock u (bs ++ (List.range k).map (ds))) (fun _ x _ => D - (intOf x).toNat)
  case atStart => exact ⟨0, Nat.zero_le _, rfl, by simpa using h⟩
  case round =>
    obtain ⟨k, hk, rfl, h2⟩ := hrel
    by_cases hlt : k < D
    · have hcell := (HD.out.grown h2.grown hne).cell (k) (by first | omega | (have := HE.out; omega))
      go_wp2_with (at_builtin; refine wpList_bf_append1 rfl _ _ _ rfl Tryz.underlying30 hi0 hz0 hz1 hz2 rfl rfl (by assumption) (by first | omega | (simp only [len_app, List.length_cons, List.length_nil, List.length_map, List.length_range, List.length_replicate]; omega)) ?_; intro v1 W1 h1)
      exact ⟨⟨k + 1, by omega, by go_num, by rw [range_snoc]; exact h1⟩, by simp [intOf]; omega⟩
    · obtain rfl : D = k := by omega
      go_wp2
      refine wp_loop_rounds 1 ?_
      rw [rounds_succ]
      go_wp2_with (at_builtin; refine wpList_bf_append1 rfl _ _ _ rfl Tryz.underlying30 hi0 hz0 hz1 hz2 rfl rfl (by assumption) (by first | omega | (simp only [len_app, List.length_cons, List.length_nil, List.length_map, List.length_range, List.length_replicate]; omega)) ?_; intro v1 W1 h1)
      refine wp_loop_rounds 1 ?_
      rw [rounds_succ]
      go_wp2
      go_loopw [0, 247] (fun u x wr => ∃ k : Nat, k ≤ E ∧ x = .int .i64 k ∧ Bf w wr v.ownBlock u (((bs ++ (List.range D).map ds) ++ [46]) ++ (List.range k).map (fun i => ds (D + i)))) (fun _ x _ => E - (intOf x).toNat)
      case atStart => exact ⟨0, Nat.zero_le _, rfl, by simpa using h1⟩
      case round =>
        obtain ⟨k, hk, rfl, h2⟩ := hrel
        by_cases hlt : k < E
        · have hcell := (HD.out.grown h2.grown hne).cell (D + k) (by first | omega | (have := HE.out; omega))
          go_wp2_with (at_builtin; refine wpList_bf_append1 rfl _ _ _ rfl Tryz.underlying30 hi0 hz0 hz1 hz2 rfl rfl (by assumption) (by first | omega | (simp only [len_app, List.length_cons, List.length_nil, List.length_map, List.length_range, List.length_replicate]; omega)) ?_; intro v1 W1 h1)
          exact ⟨⟨k + 1, by omega, by go_num, by rw [range_snoc]; exact h1⟩, by simp [intOf]; omega⟩
        · obtain rfl : E = k := by omega
          go_wp2
          refine wp_loop_rounds 1 ?_
          rw [rounds_succ]
          go_wp2
          go_ret
          refine ⟨_, rfl, ?_⟩
          have e : bs ++ fmtV false nd ds (D : Int) = ((bs ++ (List.range D).map ds) ++ [46]) ++ (List.range E).map (fun i => ds (D + i)) := by
            have hE := HE.out
            subst hE
            unfold fmtV
            rw [if_pos (show (0 : Int) < (D : Int) by omega), if_pos (show (D : Int) < ((D + E : Nat) : Int) by omega), Int.toNat_natCast, Nat.min_eq_right (by omega), Nat.add_sub_cancel_left]
            simp
          rw [e]
          exact h2

set_option maxHeartbeats 4000000 in
set_option maxRecDepth 100000 in
theorem fmtF_P20 (nd Z g : Nat) (ds : Nat → Int) (hD0 : 0 < nd + Z) (hZ : Z ≤ 1000) (w : World) (v : Value) (bs : List Int) (ho : Own w v bs) (hd : DsAt w g nd ds) (hne : v.ownBlock ≠ some g) (hnd : nd ≤ 32) (hl : bs.length ≤ 70368744177664) :
    Calls Tryz.prog 151 #[v, .bool false, .slice (some ⟨g, 0, none⟩) 32 32, .int .i64 ((nd : Int) + (Z : Int)), .int .i64 (nd : Int), .int .i64 0, .int .u8 102, .bool true] w fun e w' =>
      ∃ v', e = .returned v' ∧ Bf w w' v.ownBlock v' (bs ++ fmtV false nd ds ((nd : Int) + (Z : Int))) := by
  obtain ⟨i0, hi0, hz0, hz1, hz2⟩ := info_parts info_u8
  have h := ho.start
  have HD := Lib.hid hd
  clear ho hd
  have hmin : min (nd : Int) ((nd : Int) + Z) = nd := by omega
  have hsub : (nd : Int) + Z - nd = Z := by omega
  have hdb : decide ((0 : Int) < (nd : Int) + (Z : Int)) = true := decide_eq_true (by omega)
  go_enter Tryz.func151, Tryz.ntmps151
  go_wp2_with (at_builtin; refine wpList_bf_append1 rfl _ _ _ rfl Tryz.underlying30 hi0 hz0 hz1 hz2 rfl rfl (by assumption) (by first | omega | (simp only [len_app, List.length_cons, List.length_nil, List.length_map, List.length_range, List.length_replicate]; omega)) ?_; intro v1 W1 h1)
  go_loopw [0, 191] (fun u x wr => ∃ k : Nat, k ≤ nd ∧ x = .int .i64 k ∧ Bf w wr v.ownBlock u (bs ++ (List.range k).map (ds))) (fun _ x _ => nd - (intOf x).toNat)
  case atStart => exact ⟨0, Nat.zero_le _, rfl, by simpa using h⟩
  case round =>
    obtain ⟨k, hk, rfl, h2⟩ := hrel
    by_cases hlt : k < nd
    · have hcell := (HD.out.grown h2.grown hne).cell (k) (by first | omega | (have := HE.out; omega))
      go_wp2_with (at_builtin; refine wpList_bf_append1 rfl _ _ _ rfl Tryz.underlying30 hi0 hz0 hz1 hz2 rfl rfl (by assumption) (by first | omega | (simp only [len_app, List.length_cons, List.length_nil, List.length_map, List.length_range, List.length_replicate]; omega)) ?_; intro v1 W1 h1)
      exact ⟨⟨k + 1, by omega, by go_num, by rw [range_snoc]; exact h1⟩, by simp [intOf]; omega⟩
    · obtain rfl : nd = k := by omega
      go_wp2
      go_loopw [0, 203] (fun u x wr => ∃ k : Nat, k ≤ Z ∧ x = .int .i64 k ∧ Bf w wr v.ownBlock u ((bs ++ (List.range nd).map ds) ++ List.replicate k 48)) (fun _ x _ => Z - (intOf x).toNat)
      case atStart => exact ⟨0, Nat.zero_le _, rfl, by simpa using h2⟩
      case round =>
        obtain ⟨k, hk, rfl, h2⟩ := hrel
        by_cases hlt : k < Z
        · go_wp2_with (at_builtin; refine wpList_bf_append1 rfl _ _ _ rfl Tryz.underlying30 hi0 hz0 hz1 hz2 rfl rfl (by assumption) (by first | omega | (simp only [len_app, List.length_cons, List.length_nil, List.length_map, List.length_range, List.length_replicate]; omega)) ?_; intro v1 W1 h1)
          exact ⟨⟨k + 1, by omega, by go_num, by rw [rep_snoc]; exact h1⟩, by simp [intOf]; omega⟩
        · obtain rfl : Z = k := by omega
          go_wp2
          go_ret
          refine ⟨_, rfl, ?_⟩
          have e : bs ++ fmtV false nd ds ((nd : Int) + (Z : Int)) = (bs ++ (List.range nd).map ds) ++ List.replicate Z 48 := by
            unfold fmtV
            rw [if_pos (show (0 : Int) < (nd : Int) + (Z : Int) by omega), if_neg (show ¬ ((nd : Int) + (Z : Int) < (nd : Int)) by omega)]
            have e1 : ((nd : Int) + (Z : Int)).toNat = nd + Z := by omega
            rw [e1, Nat.min_eq_left (by omega), Nat.add_sub_cancel_left]
            simp
          rw [e]
          exact h2

set_option maxHeartbeats 4000000 in
set_option maxRecDepth 100000 in
theorem fmtF_P30 (nd Z g : Nat) (ds : Nat → Int) (hD0 : 0 < nd + Z) (hZ : Z ≤ 1000) (w : World) (v : Value) (bs : List Int) (ho : Own w v bs) (hd : DsAt w g nd ds) (hne : v.ownBlock ≠ some g) (hnd : nd ≤ 32) (hl : bs.length ≤ 70368744177664) :
    Calls Tryz.prog 151 #[v, .bool false, .slice (some ⟨g, 0, none⟩) 32 32, .int .i64 (-(Z : Int)), .int .i64 (nd : Int), .int .i64 ((nd : Int) + (Z : Int)), .int .u8 102, .bool true] w fun e w' =>
      ∃ v', e = .returned v' ∧ Bf w w' v.ownBlock v' (bs ++ fmtV false nd ds (-(Z : Int))) := by
  obtain ⟨i0, hi0, hz0, hz1, hz2⟩ := info_parts info_u8
  have h := ho.start
  have HD := Lib.hid hd
  clear ho hd
  have hneg : - -(Z : Int) = Z := by omega
  have hmax : max 0 (Z : Int) = Z := by omega
  have hmin2 : min ((nd : Int) + Z) (Z : Int) = Z := by omega
  have hzz : -(Z : Int) + Z = 0 := by omega
  have hsub : (nd : Int) + Z - Z = nd := by omega
  have hmax2 : max 0 (nd : Int) = nd := by omega
  have hmin4 : min (nd : Int) (nd : Int) = nd := by omega
  have hdb : decide ((0 : Int) < (nd : Int) + (Z : Int)) = true := decide_eq_true (by omega)
  have hdc : decide ((0 : Int) < -(Z : Int)) = false := decide_eq_false (by omega)
  go_enter Tryz.func151, Tryz.ntmps151
  go_wp2_with (at_builtin; refine wpList_bf_append1 rfl _ _ _ rfl Tryz.underlying30 hi0 hz0 hz1 hz2 rfl rfl (by assumption) (by first | omega | (simp only [len_app, List.length_cons, List.length_nil, List.length_map, List.length_range, List.length_replicate]; omega)) ?_; intro v1 W1 h1)
  go_loopw [0, 240] (fun u x wr => ∃ k : Nat, k ≤ Z ∧ x = .int .i64 k ∧ Bf w wr v.ownBlock u (((bs ++ [48]) ++ [46]) ++ List.replicate k 48)) (fun _ x _ => Z - (intOf x).toNat)
  case atStart => exact ⟨0, Nat.zero_le _, rfl, by simpa using h1⟩
  case round =>
    obtain ⟨k, hk, rfl, h2⟩ := hrel
    by_cases hlt : k < Z
    · go_wp2_with (at_builtin; refine wpList_bf_append1 rfl _ _ _ rfl Tryz.underlying30 hi0 hz0 hz1 hz2 rfl rfl (by assumption) (by first | omega | (simp only [len_app, List.length_cons, List.length_nil, List.length_map, List.length_range, List.length_replicate]; omega)) ?_; intro v1 W1 h1)
      exact ⟨⟨k + 1, by omega, by go_num, by rw [rep_snoc]; exact h1⟩, by simp [intOf]; omega⟩
    · obtain rfl : Z = k := by omega
      go_wp2
      go_loopw [0, 247] (fun u x wr => ∃ k : Nat, k ≤ nd ∧ x = .int .i64 k ∧ Bf w wr v.ownBlock u ((((bs ++ [48]) ++ [46]) ++ List.replicate Z 48) ++ (List.range k).map (ds))) (fun _ x _ => nd - (intOf x).toNat)
      case atStart => exact ⟨0, Nat.zero_le _, rfl, by simpa using h2⟩
      case round =>
        obtain ⟨k, hk, rfl, h2⟩ := hrel
        by_cases hlt : k < nd
        · have hcell := (HD.out.grown h2.grown hne).cell (k) (by first | omega | (have := HE.out; omega))
          go_wp2_with (at_builtin; refine wpList_bf_append1 rfl _ _ _ rfl Tryz.underlying30 hi0 hz0 hz1 hz2 rfl rfl (by assumption) (by first | omega | (simp only [len_app, List.length_cons, List.length_nil, List.length_map, List.length_range, List.length_replicate]; omega)) ?_; intro v1 W1 h1)
          exact ⟨⟨k + 1, by omega, by go_num, by rw [range_snoc]; exact h1⟩, by simp [intOf]; omega⟩
        · obtain rfl : nd = k := by omega
          go_wp2
          refine wp_loop_rounds 1 ?_
          rw [rounds_succ]
          go_wp2
          go_ret
          refine ⟨_, rfl, ?_⟩
          have e : bs ++ fmtV false nd ds (-(Z : Int)) = (((bs ++ [48]) ++ [46]) ++ List.replicate Z 48) ++ (List.range nd).map ds := by
            unfold fmtV
            rw [if_neg (show ¬ ((0 : Int) < -(Z : Int)) by omega), if_pos (show -(Z : Int) < (nd : Int) by omega)]
            have e1 : (-(Z : Int)).toNat = 0 := by omega
            have e2 : (- -(Z : Int)).toNat = Z := by omega
            rw [e1, e2]
            simp
          rw [e]
          exact h2

set_option maxHeartbeats 4000000 in
set_option maxRecDepth 100000 in
theorem fmtF_P40 (g : Nat) (nd : Nat) (ds : Nat → Int) (hn : nd = 0) (w : World) (v : Value) (bs : List Int) (ho : Own w v bs) (hd : DsAt w g nd ds) (hne : v.ownBlock ≠ some g) (hnd : nd ≤ 32) (hl : bs.length ≤ 70368744177664) :
    Calls Tryz.prog 151 #[v, .bool false, .slice (some ⟨g, 0, none⟩) 32 32, .int .i64 0, .int .i64 (nd : Int), .int .i64 0, .int .u8 102, .bool true] w fun e w' =>
      ∃ v', e = .returned v' ∧ Bf w w' v.ownBlock v' (bs ++ fmtV false nd ds 0) := by
  obtain ⟨i0, hi0, hz0, hz1, hz2⟩ := info_parts info_u8
  have h := ho.start
  have HD := Lib.hid hd
  clear ho hd
  subst hn
  go_enter Tryz.func151, Tryz.ntmps151
  go_wp2_with (at_builtin; refine wpList_bf_append1 rfl _ _ _ rfl Tryz.underlying30 hi0 hz0 hz1 hz2 rfl rfl (by assumption) (by first | omega | (simp only [len_app, List.length_cons, List.length_nil, List.length_map, List.length_range, List.length_replicate]; omega)) ?_; intro v1 W1 h1)
  go_ret
  refine ⟨_, rfl, ?_⟩
  have e : bs ++ fmtV false 0 ds 0 = bs ++ [48] := by
    unfold fmtV
    simp
  rw [e]
  exact h1

set_option maxHeartbeats 4000000 in
set_option maxRecDepth 100000 in
theorem fmtF_P11 (D nd E g : Nat) (ds : Nat → Int) (hD0 : 0 < D) (hD1 : D ≤ 1000) (hE : nd = D + E) (hE0 : 0 < E) (w : World) (v : Value) (bs : List Int) (ho : Own w v bs) (hd : DsAt w g nd ds) (hne : v.ownBlock ≠ some g) (hnd : nd ≤ 32) (hl : bs.length ≤ 70368744177664) :
    Calls Tryz.prog 151 #[v, .bool true, .slice (some ⟨g, 0, none⟩) 32 32, .int .i64 (D : Int), .int .i64 (nd : Int), .int .i64 (E : Int), .int .u8 102, .bool true] w fun e w' =>
      ∃ v', e = .returned v' ∧ Bf w w' v.ownBlock v' (bs ++ fmtV true nd ds (D : Int)) := by
  obtain ⟨i0, hi0, hz0, hz1, hz2⟩ := info_parts info_u8
  have h := ho.start
  have HD := Lib.hid hd
  clear ho hd
  have hmin3 : min (nd : Int) (D : Int) = D := by omega
  have hmax : max 0 (-(D : Int)) = 0 := by omega
  have hmin2 : min (E : Int) 0 = 0 := by omega
  have hmax2 : max 0 ((nd : Int) - D) = E := by omega
  have hDn : (D : Int) ≤ nd := by omega
  have HE := Lib.hid hE
  clear hE
  go_enter Tryz.func151, Tryz.ntmps151
  go_wp2_with (at_builtin; refine wpList_bf_append1 rfl _ _ _ rfl Tryz.underlying30 hi0 hz0 hz1 hz2 rfl rfl (by assumption) (by first | omega | (simp only [len_app, List.length_cons, List.length_nil, List.length_map, List.length_range, List.length_replicate]; omega)) ?_; intro v1 W1 h1)
  go_loopw [0, 191] (fun u x wr => ∃ k : Nat, k ≤ D ∧ x = .int .i64 k ∧ Bf w wr v.ownBlock u ((bs ++ [45]) ++ (List.range k).map (ds))) (fun _ x _ => D - (intOf x).toNat)
  case atStart => exact ⟨0, Nat.zero_le _, rfl, by simpa using h1⟩
  case round =>
    obtain ⟨k, hk, rfl, h2⟩ := hrel
    by_cases hlt : k < D
    · have hcell := (HD.out.grown h2.grown hne).cell (k) (by first | omega | (have := HE.out; omega))
      go_wp2_with (at_builtin; refine wpList_bf_append1 rfl _ _ _ rfl Tryz.underlying30 hi0 hz0 hz1 hz2 rfl rfl (by assumption) (by first | omega | (simp only [len_app, List.length_cons, List.length_nil, List.length_map, List.length_range, List.length_replicate]; omega)) ?_; intro v1 W1 h1)
      exact ⟨⟨k + 1, by omega, by go_num, by rw [range_snoc]; exact h1⟩, by simp [intOf]; omega⟩
    · obtain rfl : D = k := by omega
      go_wp2
      refine wp_loop_rounds 1 ?_
      rw [rounds_succ]
      go_wp2_with (at_builtin; refine wpList_bf_append1 rfl _ _ _ rfl Tryz.underlying30 hi0 hz0 hz1 hz2 rfl rfl (by assumption) (by first | omega | (simp only [len_app, List.length_cons, List.length_nil, List.length_map, List.length_range, List.length_replicate]; omega)) ?_; intro v1 W1 h1)
      refine wp_loop_rounds 1 ?_
      rw [rounds_succ]
      go_wp2
      go_loopw [0, 247] (fun u x wr => ∃ k : Nat, k ≤ E ∧ x = .int .i64 k ∧ Bf w wr v.ownBlock u ((((bs ++ [45]) ++ (List.range D).map ds) ++ [46]) ++ (List.range k).map (fun i => ds (D + i)))) (fun _ x _ => E - (intOf x).toNat)
      case atStart => exact ⟨0, Nat.zero_le _, rfl, by simpa using h1⟩
      case round =>
        obtain ⟨k, hk, rfl, h2⟩ := hrel
        by_cases hlt : k < E
        · have hcell := (HD.out.grown h2.grown hne).cell (D + k) (by first | omega | (have := HE.out; omega))
          go_wp2_with (at_builtin; refine wpList_bf_append1 rfl _ _ _ rfl Tryz.underlying30 hi0 hz0 hz1 hz2 rfl rfl (by assumption) (by first | omega | (simp only [len_app, List.length_cons, List.length_nil, List.length_map, List.length_range, List.length_replicate]; omega)) ?_; intro v1 W1 h1)
          exact ⟨⟨k + 1, by omega, by go_num, by rw [range_snoc]; exact h1⟩, by simp [intOf]; omega⟩
        · obtain rfl : E = k := by omega
          go_wp2
          refine wp_loop_rounds 1 ?_
          rw [rounds_succ]
          go_wp2
          go_ret
          refine ⟨_, rfl, ?_⟩
          have e : bs ++ fmtV true nd ds (D : Int) = (((bs ++ [45]) ++ (List.range D).map ds) ++ [46]) ++ (List.range E).map (fun i => ds (D + i)) := by
            have hE := HE.out
            subst hE
            unfold fmtV
            rw [if_pos (show (0 : Int) < (D : Int) by omega), if_pos (show (D : Int) < ((D + E : Nat) : Int) by omega), Int.toNat_natCast, Nat.min_eq_right (by omega), Nat.add_sub_cancel_left]
            simp
          rw [e]
          exact h2

set_option maxHeartbeats 4000000 in
set_option maxRecDepth 100000 in
theorem fmtF_P21 (nd Z g : Nat) (ds : Nat → Int) (hD0 : 0 < nd + Z) (hZ : Z ≤ 1000) (w : World) (v : Value) (bs : List Int) (ho : Own w v bs) (hd : DsAt w g nd ds) (hne : v.ownBlock ≠ some g) (hnd : nd ≤ 32) (hl : bs.length ≤ 70368744177664) :
    Calls Tryz.prog 151 #[v, .bool true, .slice (some ⟨g, 0, none⟩) 32 32, .int .i64 ((nd : Int) + (Z : Int)), .int .i64 (nd : Int), .int .i64 0, .int .u8 102, .bool true] w fun e w' =>
      ∃ v', e = .returned v' ∧ Bf w w' v.ownBlock v' (bs ++ fmtV true nd ds ((nd : Int) + (Z : Int))) := by
  obtain ⟨i0, hi0, hz0, hz1, hz2⟩ := info_parts info_u8
  have h := ho.start
  have HD := Lib.hid hd
  clear ho hd
  have hmin : min (nd : Int) ((nd : Int) + Z) = nd := by omega
  have hsub : (nd : Int) + Z - nd = Z := by omega
  have hdb : decide ((0 : Int) < (nd : Int) + (Z : Int)) = true := decide_eq_true (by omega)
  go_enter Tryz.func151, Tryz.ntmps151
  go_wp2_with (at_builtin; refine wpList_bf_append1 rfl _ _ _ rfl Tryz.underlying30 hi0 hz0 hz1 hz2 rfl rfl (by assumption) (by first | omega | (simp only [len_app, List.length_cons, List.length_nil, List.length_map, List.length_range, List.length_replicate]; omega)) ?_; intro v1 W1 h1)
  go_loopw [0, 191] (fun u x wr => ∃ k : Nat, k ≤ nd ∧ x = .int .i64 k ∧ Bf w wr v.ownBlock u ((bs ++ [45]) ++ (List.range k).map (ds))) (fun _ x _ => nd - (intOf x).toNat)
  case atStart => exact ⟨0, Nat.zero_le _, rfl, by simpa using h1⟩
  case round =>
    obtain ⟨k, hk, rfl, h2⟩ := hrel
    by_cases hlt : k < nd
    · have hcell := (HD.out.grown h2.grown hne).cell (k) (by first | omega | (have := HE.out; omega))
      go_wp2_with (at_builtin; refine wpList_bf_append1 rfl _ _ _ rfl Tryz.underlying30 hi0 hz0 hz1 hz2 rfl rfl (by assumption) (by first | omega | (simp only [len_app, List.length_cons, List.length_nil, List.length_map, List.length_range, List.length_replicate]; omega)) ?_; intro v1 W1 h1)
      exact ⟨⟨k + 1, by omega, by go_num, by rw [range_snoc]; exact h1⟩, by simp [intOf]; omega⟩
    · obtain rfl : nd = k := by omega
      go_wp2
      go_loopw [0, 203] (fun u x wr => ∃ k : Nat, k ≤ Z ∧ x = .int .i64 k ∧ Bf w wr v.ownBlock u (((bs ++ [45]) ++ (List.range nd).map ds) ++ List.replicate k 48)) (fun _ x _ => Z - (intOf x).toNat)
      case atStart => exact ⟨0, Nat.zero_le _, rfl, by simpa using h2⟩
      case round =>
        obtain ⟨k, hk, rfl, h2⟩ := hrel
        by_cases hlt : k < Z
        · go_wp2_with (at_builtin; refine wpList_bf_append1 rfl _ _ _ rfl Tryz.underlying30 hi0 hz0 hz1 hz2 rfl rfl (by assumption) (by first | omega | (simp only [len_app, List.length_cons, List.length_nil, List.length_map, List.length_range, List.length_replicate]; omega)) ?_; intro v1 W1 h1)
          exact ⟨⟨k + 1, by omega, by go_num, by rw [rep_snoc]; exact h1⟩, by simp [intOf]; omega⟩
        · obtain rfl : Z = k := by omega
          go_wp2
          go_ret
          refine ⟨_, rfl, ?_⟩
          have e : bs ++ fmtV true nd ds ((nd : Int) + (Z : Int)) = ((bs ++ [45]) ++ (List.range nd).map ds) ++ List.replicate Z 48 := by
            unfold fmtV
            rw [if_pos (show (0 : Int) < (nd : Int) + (Z : Int) by omega), if_neg (show ¬ ((nd : Int) + (Z : Int) < (nd : Int)) by omega)]
            have e1 : ((nd : Int) + (Z : Int)).toNat = nd + Z := by omega
            rw [e1, Nat.min_eq_left (by omega), Nat.add_sub_cancel_left]
            simp
          rw [e]
          exact h2

set_option maxHeartbeats 4000000 in
set_option maxRecDepth 100000 in
theorem fmtF_P31 (nd Z g : Nat) (ds : Nat → Int) (hD0 : 0 < nd + Z) (hZ : Z ≤ 1000) (w : World) (v : Value) (bs : List Int) (ho : Own w v bs) (hd : DsAt w g nd ds) (hne : v.ownBlock ≠ some g) (hnd : nd ≤ 32) (hl : bs.length ≤ 70368744177664) :
    Calls Tryz.prog 151 #[v, .bool true, .slice (some ⟨g, 0, none⟩) 32 32, .int .i64 (-(Z : Int)), .int .i64 (nd : Int), .int .i64 ((nd : Int) + (Z : Int)), .int .u8 102, .bool true] w fun e w' =>
      ∃ v', e = .returned v' ∧ Bf w w' v.ownBlock v' (bs ++ fmtV true nd ds (-(Z : Int))) := by
  obtain ⟨i0, hi0, hz0, hz1, hz2⟩ := info_parts info_u8
  have h := ho.start
  have HD := Lib.hid hd
  clear ho hd
  have hneg : - -(Z : Int) = Z := by omega
  have hmax : max 0 (Z : Int) = Z := by omega
  have hmin2 : min ((nd : Int) + Z) (Z : Int) = Z := by omega
  have hzz : -(Z : Int) + Z = 0 := by omega
  have hsub : (nd : Int) + Z - Z = nd := by omega
  have hmax2 : max 0 (nd : Int) = nd := by omega
  have hmin4 : min (nd : Int) (nd : Int) = nd := by omega
  have hdb : decide ((0 : Int) < (nd : Int) + (Z : Int)) = true := decide_eq_true (by omega)
  have hdc : decide ((0 : Int) < -(Z : Int)) = false := decide_eq_false (by omega)
  go_enter Tryz.func151, Tryz.ntmps151
  go_wp2_with (at_builtin; refine wpList_bf_append1 rfl _ _ _ rfl Tryz.underlying30 hi0 hz0 hz1 hz2 rfl rfl (by assumption) (by first | omega | (simp only [len_app, List.length_cons, List.length_nil, List.length_map, List.length_range, List.length_replicate]; omega)) ?_; intro v1 W1 h1)
  go_loopw [0, 240] (fun u x wr => ∃ k : Nat, k ≤ Z ∧ x = .int .i64 k ∧ Bf w wr v.ownBlock u ((((bs ++ [45]) ++ [48]) ++ [46]) ++ List.replicate k 48)) (fun _ x _ => Z - (intOf x).toNat)
  case atStart => exact ⟨0, Nat.zero_le _, rfl, by simpa using h1⟩
  case round =>
    obtain ⟨k, hk, rfl, h2⟩ := hrel
    by_cases hlt : k < Z
    · go_wp2_with (at_builtin; refine wpList_bf_append1 rfl _ _ _ rfl Tryz.underlying30 hi0 hz0 hz1 hz2 rfl rfl (by assumption) (by first | omega | (simp only [len_app, List.length_cons, List.length_nil, List.length_map, List.length_range, List.length_replicate]; omega)) ?_; intro v1 W1 h1)
      exact ⟨⟨k + 1, by omega, by go_num, by rw [rep_snoc]; exact h1⟩, by simp [intOf]; omega⟩
    · obtain rfl : Z = k := by omega
      go_wp2
      go_loopw [0, 247] (fun u x wr => ∃ k : Nat, k ≤ nd ∧ x = .int .i64 k ∧ Bf w wr v.ownBlock u (((((bs ++ [45]) ++ [48]) ++ [46]) ++ List.replicate Z 48) ++ (List.range k).map (ds))) (fun _ x _ => nd - (intOf x).toNat)
      case atStart => exact ⟨0, Nat.zero_le _, rfl, by simpa using h2⟩
      case round =>
        obtain ⟨k, hk, rfl, h2⟩ := hrel
        by_cases hlt : k < nd
        · have hcell := (HD.out.grown h2.grown hne).cell (k) (by first | omega | (have := HE.out; omega))
          go_wp2_with (at_builtin; refine wpList_bf_append1 rfl _ _ _ rfl Tryz.underlying30 hi0 hz0 hz1 hz2 rfl rfl (by assumption) (by first | omega | (simp only [len_app, List.length_cons, List.length_nil, List.length_map, List.length_range, List.length_replicate]; omega)) ?_; intro v1 W1 h1)
          exact ⟨⟨k + 1, by omega, by go_num, by rw [range_snoc]; exact h1⟩, by simp [intOf]; omega⟩
        · obtain rfl : nd = k := by omega
          go_wp2
          refine wp_loop_rounds 1 ?_
          rw [rounds_succ]
          go_wp2
          go_ret
          refine ⟨_, rfl, ?_⟩
          have e : bs ++ fmtV true nd ds (-(Z : Int)) = ((((bs ++ [45]) ++ [48]) ++ [46]) ++ List.replicate Z 48) ++ (List.range nd).map ds := by
            unfold fmtV
            rw [if_neg (show ¬ ((0 : Int) < -(Z : Int)) by omega), if_pos (show -(Z : Int) < (nd : Int) by omega)]
            have e1 : (-(Z : Int)).toNat = 0 := by omega
            have e2 : (- -(Z : Int)).toNat = Z := by omega
            rw [e1, e2]
            simp
          rw [e]
          exact h2

set_option maxHeartbeats 4000000 in
set_option maxRecDepth 100000 in
theorem fmtF_P41 (g : Nat) (nd : Nat) (ds : Nat → Int) (hn : nd = 0) (w : World) (v : Value) (bs : List Int) (ho : Own w v bs) (hd : DsAt w g nd ds) (hne : v.ownBlock ≠ some g) (hnd : nd ≤ 32) (hl : bs.length ≤ 70368744177664) :
    Calls Tryz.prog 151 #[v, .bool true, .slice (some ⟨g, 0, none⟩) 32 32, .int .i64 0, .int .i64 (nd : Int), .int .i64 0, .int .u8 102, .bool true] w fun e w' =>
      ∃ v', e = .returned v' ∧ Bf w w' v.ownBlock v' (bs ++ fmtV true nd ds 0) := by
  obtain ⟨i0, hi0, hz0, hz1, hz2⟩ := info_parts info_u8
  have h := ho.start
  have HD := Lib.hid hd
  clear ho hd
  subst hn
  go_enter Tryz.func151, Tryz.ntmps151
  go_wp2_with (at_builtin; refine wpList_bf_append1 rfl _ _ _ rfl Tryz.underlying30 hi0 hz0 hz1 hz2 rfl rfl (by assumption) (by first | omega | (simp only [len_app, List.length_cons, List.length_nil, List.length_map, List.length_range, List.length_replicate]; omega)) ?_; intro v1 W1 h1)
  go_ret
  refine ⟨_, rfl, ?_⟩
  have e : bs ++ fmtV true 0 ds 0 = (bs ++ [45]) ++ [48] := by
    unfold fmtV
    simp
  rw [e]
  exact h1

end Go.Proofs.YtpbcfgehmalppaaGreatDoor
