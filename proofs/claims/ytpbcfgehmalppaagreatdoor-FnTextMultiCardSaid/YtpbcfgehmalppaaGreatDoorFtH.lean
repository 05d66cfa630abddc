/- A place as in texts. -/
import Derived.Test.YtpbcfgehmalppaaGreatDoorFtG
namespace Go.Proofs.YtpbcfgehmalppaaGreatDoor
open Go.RowKit

theorem box5 {w0 W : World} {row : Option Nat} {v : Value} {bs : List Int} {g T : Nat} {a b c d e : Value} (h : Bf w0 W row v bs) (hb : Blk w0 g T #[a, b, c, d, e]) (hne : row ≠ some g) :
    W.cell? ⟨g, 0, none⟩ = some a ∧ W.cell? ⟨g, 1, none⟩ = some b ∧ W.cell? ⟨g, 2, none⟩ = some c ∧ W.cell? ⟨g, 3, none⟩ = some d ∧ W.cell? ⟨g, 4, none⟩ = some e := by
  have h' := hb.grown h.grown (fun e => hne e.symm)
  exact ⟨h'.cell 0, h'.cell 1, h'.cell 2, h'.cell 3, h'.cell 4⟩

theorem Bf.pre_none {w w2 w3 : World} {row : Option Nat} {v : Value} {bs : List Int} (h : Bf w2 w3 row v bs) (hg : w.grownBy w2 none) : Bf w w3 row v bs :=
  ⟨h.own, ⟨h.grown.os.trans hg.os, h.grown.tape.trans hg.tape, h.grown.output.trans hg.output, Nat.le_trans hg.size h.grown.size, fun k hk hne =>
    (h.grown.block k (Nat.lt_of_lt_of_le hk hg.size) hne).trans (hg.block k hk (by simp))⟩,
   h.place.imp id fun ⟨b, hb, hl⟩ => ⟨b, hb, Nat.le_trans hg.size hl⟩⟩

theorem FtTabs.of_bf {w0 W : World} {hi lo : Nat → Int} {row : Option Nat} {v : Value} {bs : List Int} (ht : FtTabs w0 hi lo) (h : Bf w0 W row v bs) (hrow : ∀ k, k < 7 → row ≠ some k) : FtTabs W hi lo := ht.grown h.grown hrow

set_option maxHeartbeats 4000000 in
set_option maxRecDepth 100000 in
theorem wktPlace_00 (x y z m : Nat) (hi lo : Nat → Int) (w : World) (v : Value) (bs : List Int) (ho : Own w v bs) (ht : FtTabs w hi lo) (hx : x < 18446744073709551616) (hy : y < 18446744073709551616) (hz : z < 18446744073709551616) (hm : m < 18446744073709551616)
    (hrow : ∀ k, k < 7 → v.ownBlock ≠ some k) (hl : bs.length ≤ 70368744100000) :
    Calls Tryz.prog 129 #[v, .agg #[.float .f64 x, .float .f64 y, .float .f64 z, .float .f64 m, .int .u8 0], .bool false] w fun e w' =>
      ∃ v', e = .returned v' ∧ Bf w w' v.ownBlock v' (((bs ++ ftoaV hi lo x) ++ [32]) ++ ftoaV hi lo y) := by
  obtain ⟨i0, hi0, hz0, hz1, hz2⟩ := info_parts info_u8
  have lx := ftoaV_len hi lo x hx
  have ly := ftoaV_len hi lo y hy
  have lz := ftoaV_len hi lo z hz
  have lm := ftoaV_len hi lo m hm
  have hbox : Blk (w.alloc (.cells #[.float .f64 x, .float .f64 y, .float .f64 z, .float .f64 m, .int .u8 0] 50)) w.heap.size 50 #[.float .f64 x, .float .f64 y, .float .f64 z, .float .f64 m, .int .u8 0] := Blk.new w _ _
  have hg0 : w.grownBy (w.alloc (.cells #[.float .f64 x, .float .f64 y, .float .f64 z, .float .f64 m, .int .u8 0] 50)) none := World.grownBy_alloc w _ none
  have hne : v.ownBlock ≠ some w.heap.size := fun e => by have := (ho.lt _ e).2; omega
  have h1 : Bf (w.alloc (.cells #[.float .f64 x, .float .f64 y, .float .f64 z, .float .f64 m, .int .u8 0] 50)) (w.alloc (.cells #[.float .f64 x, .float .f64 y, .float .f64 z, .float .f64 m, .int .u8 0] 50)) v.ownBlock v bs := Bf.start (ho.alloc _)
  replace ht := ht.grown hg0 (by simp)
  obtain ⟨b0, b1, b2, b3, b4⟩ := box5 h1 hbox hne
  have HX := Lib.hid hbox
  have HG := Lib.hid hg0
  have HT := Lib.hid ht
  clear hbox hg0 ht ho
  go_enter Tryz.func129, Tryz.ntmps129
  go_wp2_with (first | (at_builtin; refine wpList_bf_append1g rfl _ _ _ rfl Tryz.underlying30 hi0 hz0 hz1 hz2 rfl rfl (by assumption) (by first | rfl | simp) (by first | omega | (simp only [len_app, List.length_cons, List.length_nil]; omega)) ?_; intro v1 W1 h1; obtain ⟨b0, b1, b2, b3, b4⟩ := box5 h1 HX.out hne) | (go_at_call 139; refine (is3D_any _ false (by decide) _).mono ?_; rintro e w ⟨rfl, rfl⟩) | (go_at_call 140; refine (isM_any _ false (by decide) _).mono ?_; rintro e w ⟨rfl, rfl⟩))
  refine (appendFloat_any x hi lo _ _ bs (Bf.own_ h1) (HT.out.of_bf h1 hrow) hx (by first | omega | (simp only [len_app, List.length_cons, List.length_nil]; omega))).mono ?_
  rintro e W2 ⟨v2, rfl, k1⟩
  replace h1 := h1.trans k1
  clear k1
  obtain ⟨b0, b1, b2, b3, b4⟩ := box5 h1 HX.out hne
  go_wp2_with (first | (at_builtin; refine wpList_bf_append1g rfl _ _ _ rfl Tryz.underlying30 hi0 hz0 hz1 hz2 rfl rfl (by assumption) (by first | rfl | simp) (by first | omega | (simp only [len_app, List.length_cons, List.length_nil]; omega)) ?_; intro v1 W1 h1; obtain ⟨b0, b1, b2, b3, b4⟩ := box5 h1 HX.out hne) | (go_at_call 139; refine (is3D_any _ false (by decide) _).mono ?_; rintro e w ⟨rfl, rfl⟩) | (go_at_call 140; refine (isM_any _ false (by decide) _).mono ?_; rintro e w ⟨rfl, rfl⟩))
  refine (appendFloat_any y hi lo _ _ ((bs ++ ftoaV hi lo x) ++ [32]) (Bf.own_ h1) (HT.out.of_bf h1 hrow) hy (by first | omega | (simp only [len_app, List.length_cons, List.length_nil]; omega))).mono ?_
  rintro e W2 ⟨v2, rfl, k1⟩
  replace h1 := h1.trans k1
  clear k1
  obtain ⟨b0, b1, b2, b3, b4⟩ := box5 h1 HX.out hne
  go_wp2_with (first | (at_builtin; refine wpList_bf_append1g rfl _ _ _ rfl Tryz.underlying30 hi0 hz0 hz1 hz2 rfl rfl (by assumption) (by first | rfl | simp) (by first | omega | (simp only [len_app, List.length_cons, List.length_nil]; omega)) ?_; intro v1 W1 h1; obtain ⟨b0, b1, b2, b3, b4⟩ := box5 h1 HX.out hne) | (go_at_call 139; refine (is3D_any _ false (by decide) _).mono ?_; rintro e w ⟨rfl, rfl⟩) | (go_at_call 140; refine (isM_any _ false (by decide) _).mono ?_; rintro e w ⟨rfl, rfl⟩))
  go_ret
  exact ⟨_, rfl, h1.pre_none HG.out⟩

set_option maxHeartbeats 4000000 in
set_option maxRecDepth 100000 in
theorem wktPlace_10 (x y z m : Nat) (hi lo : Nat → Int) (w : World) (v : Value) (bs : List Int) (ho : Own w v bs) (ht : FtTabs w hi lo) (hx : x < 18446744073709551616) (hy : y < 18446744073709551616) (hz : z < 18446744073709551616) (hm : m < 18446744073709551616)
    (hrow : ∀ k, k < 7 → v.ownBlock ≠ some k) (hl : bs.length ≤ 70368744100000) :
    Calls Tryz.prog 129 #[v, .agg #[.float .f64 x, .float .f64 y, .float .f64 z, .float .f64 m, .int .u8 1], .bool false] w fun e w' =>
      ∃ v', e = .returned v' ∧ Bf w w' v.ownBlock v' (((((bs ++ ftoaV hi lo x) ++ [32]) ++ ftoaV hi lo y) ++ [32]) ++ ftoaV hi lo z) := by
  obtain ⟨i0, hi0, hz0, hz1, hz2⟩ := info_parts info_u8
  have lx := ftoaV_len hi lo x hx
  have ly := ftoaV_len hi lo y hy
  have lz := ftoaV_len hi lo z hz
  have lm := ftoaV_len hi lo m hm
  have hbox : Blk (w.alloc (.cells #[.float .f64 x, .float .f64 y, .float .f64 z, .float .f64 m, .int .u8 1] 50)) w.heap.size 50 #[.float .f64 x, .float .f64 y, .float .f64 z, .float .f64 m, .int .u8 1] := Blk.new w _ _
  have hg0 : w.grownBy (w.alloc (.cells #[.float .f64 x, .float .f64 y, .float .f64 z, .float .f64 m, .int .u8 1] 50)) none := World.grownBy_alloc w _ none
  have hne : v.ownBlock ≠ some w.heap.size := fun e => by have := (ho.lt _ e).2; omega
  have h1 : Bf (w.alloc (.cells #[.float .f64 x, .float .f64 y, .float .f64 z, .float .f64 m, .int .u8 1] 50)) (w.alloc (.cells #[.float .f64 x, .float .f64 y, .float .f64 z, .float .f64 m, .int .u8 1] 50)) v.ownBlock v bs := Bf.start (ho.alloc _)
  replace ht := ht.grown hg0 (by simp)
  obtain ⟨b0, b1, b2, b3, b4⟩ := box5 h1 hbox hne
  have HX := Lib.hid hbox
  have HG := Lib.hid hg0
  have HT := Lib.hid ht
  clear hbox hg0 ht ho
  go_enter Tryz.func129, Tryz.ntmps129
  go_wp2_with (first | (at_builtin; refine wpList_bf_append1g rfl _ _ _ rfl Tryz.underlying30 hi0 hz0 hz1 hz2 rfl rfl (by assumption) (by first | rfl | simp) (by first | omega | (simp only [len_app, List.length_cons, List.length_nil]; omega)) ?_; intro v1 W1 h1; obtain ⟨b0, b1, b2, b3, b4⟩ := box5 h1 HX.out hne) | (go_at_call 139; refine (is3D_any _ true (by decide) _).mono ?_; rintro e w ⟨rfl, rfl⟩) | (go_at_call 140; refine (isM_any _ false (by decide) _).mono ?_; rintro e w ⟨rfl, rfl⟩))
  refine (appendFloat_any x hi lo _ _ bs (Bf.own_ h1) (HT.out.of_bf h1 hrow) hx (by first | omega | (simp only [len_app, List.length_cons, List.length_nil]; omega))).mono ?_
  rintro e W2 ⟨v2, rfl, k1⟩
  replace h1 := h1.trans k1
  clear k1
  obtain ⟨b0, b1, b2, b3, b4⟩ := box5 h1 HX.out hne
  go_wp2_with (first | (at_builtin; refine wpList_bf_append1g rfl _ _ _ rfl Tryz.underlying30 hi0 hz0 hz1 hz2 rfl rfl (by assumption) (by first | rfl | simp) (by first | omega | (simp only [len_app, List.length_cons, List.length_nil]; omega)) ?_; intro v1 W1 h1; obtain ⟨b0, b1, b2, b3, b4⟩ := box5 h1 HX.out hne) | (go_at_call 139; refine (is3D_any _ true (by decide) _).mono ?_; rintro e w ⟨rfl, rfl⟩) | (go_at_call 140; refine (isM_any _ false (by decide) _).mono ?_; rintro e w ⟨rfl, rfl⟩))
  refine (appendFloat_any y hi lo _ _ ((bs ++ ftoaV hi lo x) ++ [32]) (Bf.own_ h1) (HT.out.of_bf h1 hrow) hy (by first | omega | (simp only [len_app, List.length_cons, List.length_nil]; omega))).mono ?_
  rintro e W2 ⟨v2, rfl, k1⟩
  replace h1 := h1.trans k1
  clear k1
  obtain ⟨b0, b1, b2, b3, b4⟩ := box5 h1 HX.out hne
  go_wp2_with (first | (at_builtin; refine wpList_bf_append1g rfl _ _ _ rfl Tryz.underlying30 hi0 hz0 hz1 hz2 rfl rfl (by assumption) (by first | rfl | simp) (by first | omega | (simp only [len_app, List.length_cons, List.length_nil]; omega)) ?_; intro v1 W1 h1; obtain ⟨b0, b1, b2, b3, b4⟩ := box5 h1 HX.out hne) | (go_at_call 139; refine (is3D_any _ true (by decide) _).mono ?_; rintro e w ⟨rfl, rfl⟩) | (go_at_call 140; refine (isM_any _ false (by decide) _).mono ?_; rintro e w ⟨rfl, rfl⟩))
  refine (appendFloat_any z hi lo _ _ ((((bs ++ ftoaV hi lo x) ++ [32]) ++ ftoaV hi lo y) ++ [32]) (Bf.own_ h1) (HT.out.of_bf h1 hrow) hz (by first | omega | (simp only [len_app, List.length_cons, List.length_nil]; omega))).mono ?_
  rintro e W2 ⟨v2, rfl, k1⟩
  replace h1 := h1.trans k1
  clear k1
  obtain ⟨b0, b1, b2, b3, b4⟩ := box5 h1 HX.out hne
  go_wp2_with (first | (at_builtin; refine wpList_bf_append1g rfl _ _ _ rfl Tryz.underlying30 hi0 hz0 hz1 hz2 rfl rfl (by assumption) (by first | rfl | simp) (by first | omega | (simp only [len_app, List.length_cons, List.length_nil]; omega)) ?_; intro v1 W1 h1; obtain ⟨b0, b1, b2, b3, b4⟩ := box5 h1 HX.out hne) | (go_at_call 139; refine (is3D_any _ true (by decide) _).mono ?_; rintro e w ⟨rfl, rfl⟩) | (go_at_call 140; refine (isM_any _ false (by decide) _).mono ?_; rintro e w ⟨rfl, rfl⟩))
  go_ret
  exact ⟨_, rfl, h1.pre_none HG.out⟩

set_option maxHeartbeats 4000000 in
set_option maxRecDepth 100000 in
theorem wktPlace_20 (x y z m : Nat) (hi lo : Nat → Int) (w : World) (v : Value) (bs : List Int) (ho : Own w v bs) (ht : FtTabs w hi lo) (hx : x < 18446744073709551616) (hy : y < 18446744073709551616) (hz : z < 18446744073709551616) (hm : m < 18446744073709551616)
    (hrow : ∀ k, k < 7 → v.ownBlock ≠ some k) (hl : bs.length ≤ 70368744100000) :
    Calls Tryz.prog 129 #[v, .agg #[.float .f64 x, .float .f64 y, .float .f64 z, .float .f64 m, .int .u8 2], .bool false] w fun e w' =>
      ∃ v', e = .returned v' ∧ Bf w w' v.ownBlock v' (((((bs ++ ftoaV hi lo x) ++ [32]) ++ ftoaV hi lo y) ++ [32]) ++ ftoaV hi lo m) := by
  obtain ⟨i0, hi0, hz0, hz1, hz2⟩ := info_parts info_u8
  have lx := ftoaV_len hi lo x hx
  have ly := ftoaV_len hi lo y hy
  have lz := ftoaV_len hi lo z hz
  have lm := ftoaV_len hi lo m hm
  have hbox : Blk (w.alloc (.cells #[.float .f64 x, .float .f64 y, .float .f64 z, .float .f64 m, .int .u8 2] 50)) w.heap.size 50 #[.float .f64 x, .float .f64 y, .float .f64 z, .float .f64 m, .int .u8 2] := Blk.new w _ _
  have hg0 : w.grownBy (w.alloc (.cells #[.float .f64 x, .float .f64 y, .float .f64 z, .float .f64 m, .int .u8 2] 50)) none := World.grownBy_alloc w _ none
  have hne : v.ownBlock ≠ some w.heap.size := fun e => by have := (ho.lt _ e).2; omega
  have h1 : Bf (w.alloc (.cells #[.float .f64 x, .float .f64 y, .float .f64 z, .float .f64 m, .int .u8 2] 50)) (w.alloc (.cells #[.float .f64 x, .float .f64 y, .float .f64 z, .float .f64 m, .int .u8 2] 50)) v.ownBlock v bs := Bf.start (ho.alloc _)
  replace ht := ht.grown hg0 (by simp)
  obtain ⟨b0, b1, b2, b3, b4⟩ := box5 h1 hbox hne
  have HX := Lib.hid hbox
  have HG := Lib.hid hg0
  have HT := Lib.hid ht
  clear hbox hg0 ht ho
  go_enter Tryz.func129, Tryz.ntmps129
  go_wp2_with (first | (at_builtin; refine wpList_bf_append1g rfl _ _ _ rfl Tryz.underlying30 hi0 hz0 hz1 hz2 rfl rfl (by assumption) (by first | rfl | simp) (by first | omega | (simp only [len_app, List.length_cons, List.length_nil]; omega)) ?_; intro v1 W1 h1; obtain ⟨b0, b1, b2, b3, b4⟩ := box5 h1 HX.out hne) | (go_at_call 139; refine (is3D_any _ false (by decide) _).mono ?_; rintro e w ⟨rfl, rfl⟩) | (go_at_call 140; refine (isM_any _ true (by decide) _).mono ?_; rintro e w ⟨rfl, rfl⟩))
  refine (appendFloat_any x hi lo _ _ bs (Bf.own_ h1) (HT.out.of_bf h1 hrow) hx (by first | omega | (simp only [len_app, List.length_cons, List.length_nil]; omega))).mono ?_
  rintro e W2 ⟨v2, rfl, k1⟩
  replace h1 := h1.trans k1
  clear k1
  obtain ⟨b0, b1, b2, b3, b4⟩ := box5 h1 HX.out hne
  go_wp2_with (first | (at_builtin; refine wpList_bf_append1g rfl _ _ _ rfl Tryz.underlying30 hi0 hz0 hz1 hz2 rfl rfl (by assumption) (by first | rfl | simp) (by first | omega | (simp only [len_app, List.length_cons, List.length_nil]; omega)) ?_; intro v1 W1 h1; obtain ⟨b0, b1, b2, b3, b4⟩ := box5 h1 HX.out hne) | (go_at_call 139; refine (is3D_any _ false (by decide) _).mono ?_; rintro e w ⟨rfl, rfl⟩) | (go_at_call 140; refine (isM_any _ true (by decide) _).mono ?_; rintro e w ⟨rfl, rfl⟩))
  refine (appendFloat_any y hi lo _ _ ((bs ++ ftoaV hi lo x) ++ [32]) (Bf.own_ h1) (HT.out.of_bf h1 hrow) hy (by first | omega | (simp only [len_app, List.length_cons, List.length_nil]; omega))).mono ?_
  rintro e W2 ⟨v2, rfl, k1⟩
  replace h1 := h1.trans k1
  clear k1
  obtain ⟨b0, b1, b2, b3, b4⟩ := box5 h1 HX.out hne
  go_wp2_with (first | (at_builtin; refine wpList_bf_append1g rfl _ _ _ rfl Tryz.underlying30 hi0 hz0 hz1 hz2 rfl rfl (by assumption) (by first | rfl | simp) (by first | omega | (simp only [len_app, List.length_cons, List.length_nil]; omega)) ?_; intro v1 W1 h1; obtain ⟨b0, b1, b2, b3, b4⟩ := box5 h1 HX.out hne) | (go_at_call 139; refine (is3D_any _ false (by decide) _).mono ?_; rintro e w ⟨rfl, rfl⟩) | (go_at_call 140; refine (isM_any _ true (by decide) _).mono ?_; rintro e w ⟨rfl, rfl⟩))
  refine (appendFloat_any m hi lo _ _ ((((bs ++ ftoaV hi lo x) ++ [32]) ++ ftoaV hi lo y) ++ [32]) (Bf.own_ h1) (HT.out.of_bf h1 hrow) hm (by first | omega | (simp only [len_app, List.length_cons, List.length_nil]; omega))).mono ?_
  rintro e W2 ⟨v2, rfl, k1⟩
  replace h1 := h1.trans k1
  clear k1
  obtain ⟨b0, b1, b2, b3, b4⟩ := box5 h1 HX.out hne
  go_wp2_with (first | (at_builtin; refine wpList_bf_append1g rfl _ _ _ rfl Tryz.underlying30 hi0 hz0 hz1 hz2 rfl rfl (by assumption) (by first | rfl | simp) (by first | omega | (simp only [len_app, List.length_cons, List.length_nil]; omega)) ?_; intro v1 W1 h1; obtain ⟨b0, b1, b2, b3, b4⟩ := box5 h1 HX.out hne) | (go_at_call 139; refine (is3D_any _ false (by decide) _).mono ?_; rintro e w ⟨rfl, rfl⟩) | (go_at_call 140; refine (isM_any _ true (by decide) _).mono ?_; rintro e w ⟨rfl, rfl⟩))
  go_ret
  exact ⟨_, rfl, h1.pre_none HG.out⟩

set_option maxHeartbeats 4000000 in
set_option maxRecDepth 100000 in
theorem wktPlace_30 (x y z m : Nat) (hi lo : Nat → Int) (w : World) (v : Value) (bs : List Int) (ho : Own w v bs) (ht : FtTabs w hi lo) (hx : x < 18446744073709551616) (hy : y < 18446744073709551616) (hz : z < 18446744073709551616) (hm : m < 18446744073709551616)
    (hrow : ∀ k, k < 7 → v.ownBlock ≠ some k) (hl : bs.length ≤ 70368744100000) :
    Calls Tryz.prog 129 #[v, .agg #[.float .f64 x, .float .f64 y, .float .f64 z, .float .f64 m, .int .u8 3], .bool false] w fun e w' =>
      ∃ v', e = .returned v' ∧ Bf w w' v.ownBlock v' (((((((bs ++ ftoaV hi lo x) ++ [32]) ++ ftoaV hi lo y) ++ [32]) ++ ftoaV hi lo z) ++ [32]) ++ ftoaV hi lo m) := by
  obtain ⟨i0, hi0, hz0, hz1, hz2⟩ := info_parts info_u8
  have lx := ftoaV_len hi lo x hx
  have ly := ftoaV_len hi lo y hy
  have lz := ftoaV_len hi lo z hz
  have lm := ftoaV_len hi lo m hm
  have hbox : Blk (w.alloc (.cells #[.float .f64 x, .float .f64 y, .float .f64 z, .float .f64 m, .int .u8 3] 50)) w.heap.size 50 #[.float .f64 x, .float .f64 y, .float .f64 z, .float .f64 m, .int .u8 3] := Blk.new w _ _
  have hg0 : w.grownBy (w.alloc (.cells #[.float .f64 x, .float .f64 y, .float .f64 z, .float .f64 m, .int .u8 3] 50)) none := World.grownBy_alloc w _ none
  have hne : v.ownBlock ≠ some w.heap.size := fun e => by have := (ho.lt _ e).2; omega
  have h1 : Bf (w.alloc (.cells #[.float .f64 x, .float .f64 y, .float .f64 z, .float .f64 m, .int .u8 3] 50)) (w.alloc (.cells #[.float .f64 x, .float .f64 y, .float .f64 z, .float .f64 m, .int .u8 3] 50)) v.ownBlock v bs := Bf.start (ho.alloc _)
  replace ht := ht.grown hg0 (by simp)
  obtain ⟨b0, b1, b2, b3, b4⟩ := box5 h1 hbox hne
  have HX := Lib.hid hbox
  have HG := Lib.hid hg0
  have HT := Lib.hid ht
  clear hbox hg0 ht ho
  go_enter Tryz.func129, Tryz.ntmps129
  go_wp2_with (first | (at_builtin; refine wpList_bf_append1g rfl _ _ _ rfl Tryz.underlying30 hi0 hz0 hz1 hz2 rfl rfl (by assumption) (by first | rfl | simp) (by first | omega | (simp only [len_app, List.length_cons, List.length_nil]; omega)) ?_; intro v1 W1 h1; obtain ⟨b0, b1, b2, b3, b4⟩ := box5 h1 HX.out hne) | (go_at_call 139; refine (is3D_any _ true (by decide) _).mono ?_; rintro e w ⟨rfl, rfl⟩) | (go_at_call 140; refine (isM_any _ true (by decide) _).mono ?_; rintro e w ⟨rfl, rfl⟩))
  refine (appendFloat_any x hi lo _ _ bs (Bf.own_ h1) (HT.out.of_bf h1 hrow) hx (by first | omega | (simp only [len_app, List.length_cons, List.length_nil]; omega))).mono ?_
  rintro e W2 ⟨v2, rfl, k1⟩
  replace h1 := h1.trans k1
  clear k1
  obtain ⟨b0, b1, b2, b3, b4⟩ := box5 h1 HX.out hne
  go_wp2_with (first | (at_builtin; refine wpList_bf_append1g rfl _ _ _ rfl Tryz.underlying30 hi0 hz0 hz1 hz2 rfl rfl (by assumption) (by first | rfl | simp) (by first | omega | (simp only [len_app, List.length_cons, List.length_nil]; omega)) ?_; intro v1 W1 h1; obtain ⟨b0, b1, b2, b3, b4⟩ := box5 h1 HX.out hne) | (go_at_call 139; refine (is3D_any _ true (by decide) _).mono ?_; rintro e w ⟨rfl, rfl⟩) | (go_at_call 140; refine (isM_any _ true (by decide) _).mono ?_; rintro e w ⟨rfl, rfl⟩))
  refine (appendFloat_any y hi lo _ _ ((bs ++ ftoaV hi lo x) ++ [32]) (Bf.own_ h1) (HT.out.of_bf h1 hrow) hy (by first | omega | (simp only [len_app, List.length_cons, List.length_nil]; omega))).mono ?_
  rintro e W2 ⟨v2, rfl, k1⟩
  replace h1 := h1.trans k1
  clear k1
  obtain ⟨b0, b1, b2, b3, b4⟩ := box5 h1 HX.out hne
  go_wp2_with (first | (at_builtin; refine wpList_bf_append1g rfl _ _ _ rfl Tryz.underlying30 hi0 hz0 hz1 hz2 rfl rfl (by assumption) (by first | rfl | simp) (by first | omega | (simp only [len_app, List.length_cons, List.length_nil]; omega)) ?_; intro v1 W1 h1; obtain ⟨b0, b1, b2, b3, b4⟩ := box5 h1 HX.out hne) | (go_at_call 139; refine (is3D_any _ true (by decide) _).mono ?_; rintro e w ⟨rfl, rfl⟩) | (go_at_call 140; refine (isM_any _ true (by decide) _).mono ?_; rintro e w ⟨rfl, rfl⟩))
  refine (appendFloat_any z hi lo _ _ ((((bs ++ ftoaV hi lo x) ++ [32]) ++ ftoaV hi lo y) ++ [32]) (Bf.own_ h1) (HT.out.of_bf h1 hrow) hz (by first | omega | (simp only [len_app, List.length_cons, List.length_nil]; omega))).mono ?_
  rintro e W2 ⟨v2, rfl, k1⟩
  replace h1 := h1.trans k1
  clear k1
  obtain ⟨b0, b1, b2, b3, b4⟩ := box5 h1 HX.out hne
  go_wp2_with (first | (at_builtin; refine wpList_bf_append1g rfl _ _ _ rfl Tryz.underlying30 hi0 hz0 hz1 hz2 rfl rfl (by assumption) (by first | rfl | simp) (by first | omega | (simp only [len_app, List.length_cons, List.length_nil]; omega)) ?_; intro v1 W1 h1; obtain ⟨b0, b1, b2, b3, b4⟩ := box5 h1 HX.out hne) | (go_at_call 139; refine (is3D_any _ true (by decide) _).mono ?_; rintro e w ⟨rfl, rfl⟩) | (go_at_call 140; refine (isM_any _ true (by decide) _).mono ?_; rintro e w ⟨rfl, rfl⟩))
  refine (appendFloat_any m hi lo _ _ ((((((bs ++ ftoaV hi lo x) ++ [32]) ++ ftoaV hi lo y) ++ [32]) ++ ftoaV hi lo z) ++ [32]) (Bf.own_ h1) (HT.out.of_bf h1 hrow) hm (by first | omega | (simp only [len_app, List.length_cons, List.length_nil]; omega))).mono ?_
  rintro e W2 ⟨v2, rfl, k1⟩
  replace h1 := h1.trans k1
  clear k1
  obtain ⟨b0, b1, b2, b3, b4⟩ := box5 h1 HX.out hne
  go_wp2_with (first | (at_builtin; refine wpList_bf_append1g rfl _ _ _ rfl Tryz.underlying30 hi0 hz0 hz1 hz2 rfl rfl (by assumption) (by first | rfl | simp) (by first | omega | (simp only [len_app, List.length_cons, List.length_nil]; omega)) ?_; intro v1 W1 h1; obtain ⟨b0, b1, b2, b3, b4⟩ := box5 h1 HX.out hne) | (go_at_call 139; refine (is3D_any _ true (by decide) _).mono ?_; rintro e w ⟨rfl, rfl⟩) | (go_at_call 140; refine (isM_any _ true (by decide) _).mono ?_; rintro e w ⟨rfl, rfl⟩))
  go_ret
  exact ⟨_, rfl, h1.pre_none HG.out⟩

set_option maxHeartbeats 4000000 in
set_option maxRecDepth 100000 in
theorem wktPlace_01 (x y z m : Nat) (hi lo : Nat → Int) (w : World) (v : Value) (bs : List Int) (ho : Own w v bs) (ht : FtTabs w hi lo) (hx : x < 18446744073709551616) (hy : y < 18446744073709551616) (hz : z < 18446744073709551616) (hm : m < 18446744073709551616)
    (hrow : ∀ k, k < 7 → v.ownBlock ≠ some k) (hl : bs.length ≤ 70368744100000) :
    Calls Tryz.prog 129 #[v, .agg #[.float .f64 x, .float .f64 y, .float .f64 z, .float .f64 m, .int .u8 0], .bool true] w fun e w' =>
      ∃ v', e = .returned v' ∧ Bf w w' v.ownBlock v' (((((bs ++ [40]) ++ ftoaV hi lo x) ++ [32]) ++ ftoaV hi lo y) ++ [41]) := by
  obtain ⟨i0, hi0, hz0, hz1, hz2⟩ := info_parts info_u8
  have lx := ftoaV_len hi lo x hx
  have ly := ftoaV_len hi lo y hy
  have lz := ftoaV_len hi lo z hz
  have lm := ftoaV_len hi lo m hm
  have hbox : Blk (w.alloc (.cells #[.float .f64 x, .float .f64 y, .float .f64 z, .float .f64 m, .int .u8 0] 50)) w.heap.size 50 #[.float .f64 x, .float .f64 y, .float .f64 z, .float .f64 m, .int .u8 0] := Blk.new w _ _
  have hg0 : w.grownBy (w.alloc (.cells #[.float .f64 x, .float .f64 y, .float .f64 z, .float .f64 m, .int .u8 0] 50)) none := World.grownBy_alloc w _ none
  have hne : v.ownBlock ≠ some w.heap.size := fun e => by have := (ho.lt _ e).2; omega
  have h1 : Bf (w.alloc (.cells #[.float .f64 x, .float .f64 y, .float .f64 z, .float .f64 m, .int .u8 0] 50)) (w.alloc (.cells #[.float .f64 x, .float .f64 y, .float .f64 z, .float .f64 m, .int .u8 0] 50)) v.ownBlock v bs := Bf.start (ho.alloc _)
  replace ht := ht.grown hg0 (by simp)
  obtain ⟨b0, b1, b2, b3, b4⟩ := box5 h1 hbox hne
  have HX := Lib.hid hbox
  have HG := Lib.hid hg0
  have HT := Lib.hid ht
  clear hbox hg0 ht ho
  go_enter Tryz.func129, Tryz.ntmps129
  go_wp2_with (first | (at_builtin; refine wpList_bf_append1g rfl _ _ _ rfl Tryz.underlying30 hi0 hz0 hz1 hz2 rfl rfl (by assumption) (by first | rfl | simp) (by first | omega | (simp only [len_app, List.length_cons, List.length_nil]; omega)) ?_; intro v1 W1 h1; obtain ⟨b0, b1, b2, b3, b4⟩ := box5 h1 HX.out hne) | (go_at_call 139; refine (is3D_any _ false (by decide) _).mono ?_; rintro e w ⟨rfl, rfl⟩) | (go_at_call 140; refine (isM_any _ false (by decide) _).mono ?_; rintro e w ⟨rfl, rfl⟩))
  refine (appendFloat_any x hi lo _ _ (bs ++ [40]) (Bf.own_ h1) (HT.out.of_bf h1 hrow) hx (by first | omega | (simp only [len_app, List.length_cons, List.length_nil]; omega))).mono ?_
  rintro e W2 ⟨v2, rfl, k1⟩
  replace h1 := h1.trans k1
  clear k1
  obtain ⟨b0, b1, b2, b3, b4⟩ := box5 h1 HX.out hne
  go_wp2_with (first | (at_builtin; refine wpList_bf_append1g rfl _ _ _ rfl Tryz.underlying30 hi0 hz0 hz1 hz2 rfl rfl (by assumption) (by first | rfl | simp) (by first | omega | (simp only [len_app, List.length_cons, List.length_nil]; omega)) ?_; intro v1 W1 h1; obtain ⟨b0, b1, b2, b3, b4⟩ := box5 h1 HX.out hne) | (go_at_call 139; refine (is3D_any _ false (by decide) _).mono ?_; rintro e w ⟨rfl, rfl⟩) | (go_at_call 140; refine (isM_any _ false (by decide) _).mono ?_; rintro e w ⟨rfl, rfl⟩))
  refine (appendFloat_any y hi lo _ _ (((bs ++ [40]) ++ ftoaV hi lo x) ++ [32]) (Bf.own_ h1) (HT.out.of_bf h1 hrow) hy (by first | omega | (simp only [len_app, List.length_cons, List.length_nil]; omega))).mono ?_
  rintro e W2 ⟨v2, rfl, k1⟩
  replace h1 := h1.trans k1
  clear k1
  obtain ⟨b0, b1, b2, b3, b4⟩ := box5 h1 HX.out hne
  go_wp2_with (first | (at_builtin; refine wpList_bf_append1g rfl _ _ _ rfl Tryz.underlying30 hi0 hz0 hz1 hz2 rfl rfl (by assumption) (by first | rfl | simp) (by first | omega | (simp only [len_app, List.length_cons, List.length_nil]; omega)) ?_; intro v1 W1 h1; obtain ⟨b0, b1, b2, b3, b4⟩ := box5 h1 HX.out hne) | (go_at_call 139; refine (is3D_any _ false (by decide) _).mono ?_; rintro e w ⟨rfl, rfl⟩) | (go_at_call 140; refine (isM_any _ false (by decide) _).mono ?_; rintro e w ⟨rfl, rfl⟩))
  go_ret
  exact ⟨_, rfl, h1.pre_none HG.out⟩

set_option maxHeartbeats 4000000 in
set_option maxRecDepth 100000 in
theorem wktPlace_11 (x y z m : Nat) (hi lo : Nat → Int) (w : World) (v : Value) (bs : List Int) (ho : Own w v bs) (ht : FtTabs w hi lo) (hx : x < 18446744073709551616) (hy : y < 18446744073709551616) (hz : z < 18446744073709551616) (hm : m < 18446744073709551616)
    (hrow : ∀ k, k < 7 → v.ownBlock ≠ some k) (hl : bs.length ≤ 70368744100000) :
    Calls Tryz.prog 129 #[v, .agg #[.float .f64 x, .float .f64 y, .float .f64 z, .float .f64 m, .int .u8 1], .bool true] w fun e w' =>
      ∃ v', e = .returned v' ∧ Bf w w' v.ownBlock v' (((((((bs ++ [40]) ++ ftoaV hi lo x) ++ [32]) ++ ftoaV hi lo y) ++ [32]) ++ ftoaV hi lo z) ++ [41]) := by
  obtain ⟨i0, hi0, hz0, hz1, hz2⟩ := info_parts info_u8
  have lx := ftoaV_len hi lo x hx
  have ly := ftoaV_len hi lo y hy
  have lz := ftoaV_len hi lo z hz
  have lm := ftoaV_len hi lo m hm
  have hbox : Blk (w.alloc (.cells #[.float .f64 x, .float .f64 y, .float .f64 z, .float .f64 m, .int .u8 1] 50)) w.heap.size 50 #[.float .f64 x, .float .f64 y, .float .f64 z, .float .f64 m, .int .u8 1] := Blk.new w _ _
  have hg0 : w.grownBy (w.alloc (.cells #[.float .f64 x, .float .f64 y, .float .f64 z, .float .f64 m, .int .u8 1] 50)) none := World.grownBy_alloc w _ none
  have hne : v.ownBlock ≠ some w.heap.size := fun e => by have := (ho.lt _ e).2; omega
  have h1 : Bf (w.alloc (.cells #[.float .f64 x, .float .f64 y, .float .f64 z, .float .f64 m, .int .u8 1] 50)) (w.alloc (.cells #[.float .f64 x, .float .f64 y, .float .f64 z, .float .f64 m, .int .u8 1] 50)) v.ownBlock v bs := Bf.start (ho.alloc _)
  replace ht := ht.grown hg0 (by simp)
  obtain ⟨b0, b1, b2, b3, b4⟩ := box5 h1 hbox hne
  have HX := Lib.hid hbox
  have HG := Lib.hid hg0
  have HT := Lib.hid ht
  clear hbox hg0 ht ho
  go_enter Tryz.func129, Tryz.ntmps129
  go_wp2_with (first | (at_builtin; refine wpList_bf_append1g rfl _ _ _ rfl Tryz.underlying30 hi0 hz0 hz1 hz2 rfl rfl (by assumption) (by first | rfl | simp) (by first | omega | (simp only [len_app, List.length_cons, List.length_nil]; omega)) ?_; intro v1 W1 h1; obtain ⟨b0, b1, b2, b3, b4⟩ := box5 h1 HX.out hne) | (go_at_call 139; refine (is3D_any _ true (by decide) _).mono ?_; rintro e w ⟨rfl, rfl⟩) | (go_at_call 140; refine (isM_any _ false (by decide) _).mono ?_; rintro e w ⟨rfl, rfl⟩))
  refine (appendFloat_any x hi lo _ _ (bs ++ [40]) (Bf.own_ h1) (HT.out.of_bf h1 hrow) hx (by first | omega | (simp only [len_app, List.length_cons, List.length_nil]; omega))).mono ?_
  rintro e W2 ⟨v2, rfl, k1⟩
  replace h1 := h1.trans k1
  clear k1
  obtain ⟨b0, b1, b2, b3, b4⟩ := box5 h1 HX.out hne
  go_wp2_with (first | (at_builtin; refine wpList_bf_append1g rfl _ _ _ rfl Tryz.underlying30 hi0 hz0 hz1 hz2 rfl rfl (by assumption) (by first | rfl | simp) (by first | omega | (simp only [len_app, List.length_cons, List.length_nil]; omega)) ?_; intro v1 W1 h1; obtain ⟨b0, b1, b2, b3, b4⟩ := box5 h1 HX.out hne) | (go_at_call 139; refine (is3D_any _ true (by decide) _).mono ?_; rintro e w ⟨rfl, rfl⟩) | (go_at_call 140; refine (isM_any _ false (by decide) _).mono ?_; rintro e w ⟨rfl, rfl⟩))
  refine (appendFloat_any y hi lo _ _ (((bs ++ [40]) ++ ftoaV hi lo x) ++ [32]) (Bf.own_ h1) (HT.out.of_bf h1 hrow) hy (by first | omega | (simp only [len_app, List.length_cons, List.length_nil]; omega))).mono ?_
  rintro e W2 ⟨v2, rfl, k1⟩
  replace h1 := h1.trans k1
  clear k1
  obtain ⟨b0, b1, b2, b3, b4⟩ := box5 h1 HX.out hne
  go_wp2_with (first | (at_builtin; refine wpList_bf_append1g rfl _ _ _ rfl Tryz.underlying30 hi0 hz0 hz1 hz2 rfl rfl (by assumption) (by first | rfl | simp) (by first | omega | (simp only [len_app, List.length_cons, List.length_nil]; omega)) ?_; intro v1 W1 h1; obtain ⟨b0, b1, b2, b3, b4⟩ := box5 h1 HX.out hne) | (go_at_call 139; refine (is3D_any _ true (by decide) _).mono ?_; rintro e w ⟨rfl, rfl⟩) | (go_at_call 140; refine (isM_any _ false (by decide) _).mono ?_; rintro e w ⟨rfl, rfl⟩))
  refine (appendFloat_any z hi lo _ _ (((((bs ++ [40]) ++ ftoaV hi lo x) ++ [32]) ++ ftoaV hi lo y) ++ [32]) (Bf.own_ h1) (HT.out.of_bf h1 hrow) hz (by first | omega | (simp only [len_app, List.length_cons, List.length_nil]; omega))).mono ?_
  rintro e W2 ⟨v2, rfl, k1⟩
  replace h1 := h1.trans k1
  clear k1
  obtain ⟨b0, b1, b2, b3, b4⟩ := box5 h1 HX.out hne
  go_wp2_with (first | (at_builtin; refine wpList_bf_append1g rfl _ _ _ rfl Tryz.underlying30 hi0 hz0 hz1 hz2 rfl rfl (by assumption) (by first | rfl | simp) (by first | omega | (simp only [len_app, List.length_cons, List.length_nil]; omega)) ?_; intro v1 W1 h1; obtain ⟨b0, b1, b2, b3, b4⟩ := box5 h1 HX.out hne) | (go_at_call 139; refine (is3D_any _ true (by decide) _).mono ?_; rintro e w ⟨rfl, rfl⟩) | (go_at_call 140; refine (isM_any _ false (by decide) _).mono ?_; rintro e w ⟨rfl, rfl⟩))
  go_ret
  exact ⟨_, rfl, h1.pre_none HG.out⟩

set_option maxHeartbeats 4000000 in
set_option maxRecDepth 100000 in
theorem wktPlace_21 (x y z m : Nat) (hi lo : Nat → Int) (w : World) (v : Value) (bs : List Int) (ho : Own w v bs) (ht : FtTabs w hi lo) (hx : x < 18446744073709551616) (hy : y < 18446744073709551616) (hz : z < 18446744073709551616) (hm : m < 18446744073709551616)
    (hrow : ∀ k, k < 7 → v.ownBlock ≠ some k) (hl : bs.length ≤ 70368744100000) :
    Calls Tryz.prog 129 #[v, .agg #[.float .f64 x, .float .f64 y, .float .f64 z, .float .f64 m, .int .u8 2], .bool true] w fun e w' =>
      ∃ v', e = .returned v' ∧ Bf w w' v.ownBlock v' (((((((bs ++ [40]) ++ ftoaV hi lo x) ++ [32]) ++ ftoaV hi lo y) ++ [32]) ++ ftoaV hi lo m) ++ [41]) := by
  obtain ⟨i0, hi0, hz0, hz1, hz2⟩ := info_parts info_u8
  have lx := ftoaV_len hi lo x hx
  have ly := ftoaV_len hi lo y hy
  have lz := ftoaV_len hi lo z hz
  have lm := ftoaV_len hi lo m hm
  have hbox : Blk (w.alloc (.cells #[.float .f64 x, .float .f64 y, .float .f64 z, .float .f64 m, .int .u8 2] 50)) w.heap.size 50 #[.float .f64 x, .float .f64 y, .float .f64 z, .float .f64 m, .int .u8 2] := Blk.new w _ _
  have hg0 : w.grownBy (w.alloc (.cells #[.float .f64 x, .float .f64 y, .float .f64 z, .float .f64 m, .int .u8 2] 50)) none := World.grownBy_alloc w _ none
  have hne : v.ownBlock ≠ some w.heap.size := fun e => by have := (ho.lt _ e).2; omega
  have h1 : Bf (w.alloc (.cells #[.float .f64 x, .float .f64 y, .float .f64 z, .float .f64 m, .int .u8 2] 50)) (w.alloc (.cells #[.float .f64 x, .float .f64 y, .float .f64 z, .float .f64 m, .int .u8 2] 50)) v.ownBlock v bs := Bf.start (ho.alloc _)
  replace ht := ht.grown hg0 (by simp)
  obtain ⟨b0, b1, b2, b3, b4⟩ := box5 h1 hbox hne
  have HX := Lib.hid hbox
  have HG := Lib.hid hg0
  have HT := Lib.hid ht
  clear hbox hg0 ht ho
  go_enter Tryz.func129, Tryz.ntmps129
  go_wp2_with (first | (at_builtin; refine wpList_bf_append1g rfl _ _ _ rfl Tryz.underlying30 hi0 hz0 hz1 hz2 rfl rfl (by assumption) (by first | rfl | simp) (by first | omega | (simp only [len_app, List.length_cons, List.length_nil]; omega)) ?_; intro v1 W1 h1; obtain ⟨b0, b1, b2, b3, b4⟩ := box5 h1 HX.out hne) | (go_at_call 139; refine (is3D_any _ false (by decide) _).mono ?_; rintro e w ⟨rfl, rfl⟩) | (go_at_call 140; refine (isM_any _ true (by decide) _).mono ?_; rintro e w ⟨rfl, rfl⟩))
  refine (appendFloat_any x hi lo _ _ (bs ++ [40]) (Bf.own_ h1) (HT.out.of_bf h1 hrow) hx (by first | omega | (simp only [len_app, List.length_cons, List.length_nil]; omega))).mono ?_
  rintro e W2 ⟨v2, rfl, k1⟩
  replace h1 := h1.trans k1
  clear k1
  obtain ⟨b0, b1, b2, b3, b4⟩ := box5 h1 HX.out hne
  go_wp2_with (first | (at_builtin; refine wpList_bf_append1g rfl _ _ _ rfl Tryz.underlying30 hi0 hz0 hz1 hz2 rfl rfl (by assumption) (by first | rfl | simp) (by first | omega | (simp only [len_app, List.length_cons, List.length_nil]; omega)) ?_; intro v1 W1 h1; obtain ⟨b0, b1, b2, b3, b4⟩ := box5 h1 HX.out hne) | (go_at_call 139; refine (is3D_any _ false (by decide) _).mono ?_; rintro e w ⟨rfl, rfl⟩) | (go_at_call 140; refine (isM_any _ true (by decide) _).mono ?_; rintro e w ⟨rfl, rfl⟩))
  refine (appendFloat_any y hi lo _ _ (((bs ++ [40]) ++ ftoaV hi lo x) ++ [32]) (Bf.own_ h1) (HT.out.of_bf h1 hrow) hy (by first | omega | (simp only [len_app, List.length_cons, List.length_nil]; omega))).mono ?_
  rintro e W2 ⟨v2, rfl, k1⟩
  replace h1 := h1.trans k1
  clear k1
  obtain ⟨b0, b1, b2, b3, b4⟩ := box5 h1 HX.out hne
  go_wp2_with (first | (at_builtin; refine wpList_bf_append1g rfl _ _ _ rfl Tryz.underlying30 hi0 hz0 hz1 hz2 rfl rfl (by assumption) (by first | rfl | simp) (by first | omega | (simp only [len_app, List.length_cons, List.length_nil]; omega)) ?_; intro v1 W1 h1; obtain ⟨b0, b1, b2, b3, b4⟩ := box5 h1 HX.out hne) | (go_at_call 139; refine (is3D_any _ false (by decide) _).mono ?_; rintro e w ⟨rfl, rfl⟩) | (go_at_call 140; refine (isM_any _ true (by decide) _).mono ?_; rintro e w ⟨rfl, rfl⟩))
  refine (appendFloat_any m hi lo _ _ (((((bs ++ [40]) ++ ftoaV hi lo x) ++ [32]) ++ ftoaV hi lo y) ++ [32]) (Bf.own_ h1) (HT.out.of_bf h1 hrow) hm (by first | omega | (simp only [len_app, List.length_cons, List.length_nil]; omega))).mono ?_
  rintro e W2 ⟨v2, rfl, k1⟩
  replace h1 := h1.trans k1
  clear k1
  obtain ⟨b0, b1, b2, b3, b4⟩ := box5 h1 HX.out hne
  go_wp2_with (first | (at_builtin; refine wpList_bf_append1g rfl _ _ _ rfl Tryz.underlying30 hi0 hz0 hz1 hz2 rfl rfl (by assumption) (by first | rfl | simp) (by first | omega | (simp only [len_app, List.length_cons, List.length_nil]; omega)) ?_; intro v1 W1 h1; obtain ⟨b0, b1, b2, b3, b4⟩ := box5 h1 HX.out hne) | (go_at_call 139; refine (is3D_any _ false (by decide) _).mono ?_; rintro e w ⟨rfl, rfl⟩) | (go_at_call 140; refine (isM_any _ true (by decide) _).mono ?_; rintro e w ⟨rfl, rfl⟩))
  go_ret
  exact ⟨_, rfl, h1.pre_none HG.out⟩

set_option maxHeartbeats 4000000 in
set_option maxRecDepth 100000 in
theorem wktPlace_31 (x y z m : Nat) (hi lo : Nat → Int) (w : World) (v : Value) (bs : List Int) (ho : Own w v bs) (ht : FtTabs w hi lo) (hx : x < 18446744073709551616) (hy : y < 18446744073709551616) (hz : z < 18446744073709551616) (hm : m < 18446744073709551616)
    (hrow : ∀ k, k < 7 → v.ownBlock ≠ some k) (hl : bs.length ≤ 70368744100000) :
    Calls Tryz.prog 129 #[v, .agg #[.float .f64 x, .float .f64 y, .float .f64 z, .float .f64 m, .int .u8 3], .bool true] w fun e w' =>
      ∃ v', e = .returned v' ∧ Bf w w' v.ownBlock v' (((((((((bs ++ [40]) ++ ftoaV hi lo x) ++ [32]) ++ ftoaV hi lo y) ++ [32]) ++ ftoaV hi lo z) ++ [32]) ++ ftoaV hi lo m) ++ [41]) := by
  obtain ⟨i0, hi0, hz0, hz1, hz2⟩ := info_parts info_u8
  have lx := ftoaV_len hi lo x hx
  have ly := ftoaV_len hi lo y hy
  have lz := ftoaV_len hi lo z hz
  have lm := ftoaV_len hi lo m hm
  have hbox : Blk (w.alloc (.cells #[.float .f64 x, .float .f64 y, .float .f64 z, .float .f64 m, .int .u8 3] 50)) w.heap.size 50 #[.float .f64 x, .float .f64 y, .float .f64 z, .float .f64 m, .int .u8 3] := Blk.new w _ _
  have hg0 : w.grownBy (w.alloc (.cells #[.float .f64 x, .float .f64 y, .float .f64 z, .float .f64 m, .int .u8 3] 50)) none := World.grownBy_alloc w _ none
  have hne : v.ownBlock ≠ some w.heap.size := fun e => by have := (ho.lt _ e).2; omega
  have h1 : Bf (w.alloc (.cells #[.float .f64 x, .float .f64 y, .float .f64 z, .float .f64 m, .int .u8 3] 50)) (w.alloc (.cells #[.float .f64 x, .float .f64 y, .float .f64 z, .float .f64 m, .int .u8 3] 50)) v.ownBlock v bs := Bf.start (ho.alloc _)
  replace ht := ht.grown hg0 (by simp)
  obtain ⟨b0, b1, b2, b3, b4⟩ := box5 h1 hbox hne
  have HX := Lib.hid hbox
  have HG := Lib.hid hg0
  have HT := Lib.hid ht
  clear hbox hg0 ht ho
  go_enter Tryz.func129, Tryz.ntmps129
  go_wp2_with (first | (at_builtin; refine wpList_bf_append1g rfl _ _ _ rfl Tryz.underlying30 hi0 hz0 hz1 hz2 rfl rfl (by assumption) (by first | rfl | simp) (by first | omega | (simp only [len_app, List.length_cons, List.length_nil]; omega)) ?_; intro v1 W1 h1; obtain ⟨b0, b1, b2, b3, b4⟩ := box5 h1 HX.out hne) | (go_at_call 139; refine (is3D_any _ true (by decide) _).mono ?_; rintro e w ⟨rfl, rfl⟩) | (go_at_call 140; refine (isM_any _ true (by decide) _).mono ?_; rintro e w ⟨rfl, rfl⟩))
  refine (appendFloat_any x hi lo _ _ (bs ++ [40]) (Bf.own_ h1) (HT.out.of_bf h1 hrow) hx (by first | omega | (simp only [len_app, List.length_cons, List.length_nil]; omega))).mono ?_
  rintro e W2 ⟨v2, rfl, k1⟩
  replace h1 := h1.trans k1
  clear k1
  obtain ⟨b0, b1, b2, b3, b4⟩ := box5 h1 HX.out hne
  go_wp2_with (first | (at_builtin; refine wpList_bf_append1g rfl _ _ _ rfl Tryz.underlying30 hi0 hz0 hz1 hz2 rfl rfl (by assumption) (by first | rfl | simp) (by first | omega | (simp only [len_app, List.length_cons, List.length_nil]; omega)) ?_; intro v1 W1 h1; obtain ⟨b0, b1, b2, b3, b4⟩ := box5 h1 HX.out hne) | (go_at_call 139; refine (is3D_any _ true (by decide) _).mono ?_; rintro e w ⟨rfl, rfl⟩) | (go_at_call 140; refine (isM_any _ true (by decide) _).mono ?_; rintro e w ⟨rfl, rfl⟩))
  refine (appendFloat_any y hi lo _ _ (((bs ++ [40]) ++ ftoaV hi lo x) ++ [32]) (Bf.own_ h1) (HT.out.of_bf h1 hrow) hy (by first | omega | (simp only [len_app, List.length_cons, List.length_nil]; omega))).mono ?_
  rintro e W2 ⟨v2, rfl, k1⟩
  replace h1 := h1.trans k1
  clear k1
  obtain ⟨b0, b1, b2, b3, b4⟩ := box5 h1 HX.out hne
  go_wp2_with (first | (at_builtin; refine wpList_bf_append1g rfl _ _ _ rfl Tryz.underlying30 hi0 hz0 hz1 hz2 rfl rfl (by assumption) (by first | rfl | simp) (by first | omega | (simp only [len_app, List.length_cons, List.length_nil]; omega)) ?_; intro v1 W1 h1; obtain ⟨b0, b1, b2, b3, b4⟩ := box5 h1 HX.out hne) | (go_at_call 139; refine (is3D_any _ true (by decide) _).mono ?_; rintro e w ⟨rfl, rfl⟩) | (go_at_call 140; refine (isM_any _ true (by decide) _).mono ?_; rintro e w ⟨rfl, rfl⟩))
  refine (appendFloat_any z hi lo _ _ (((((bs ++ [40]) ++ ftoaV hi lo x) ++ [32]) ++ ftoaV hi lo y) ++ [32]) (Bf.own_ h1) (HT.out.of_bf h1 hrow) hz (by first | omega | (simp only [len_app, List.length_cons, List.length_nil]; omega))).mono ?_
  rintro e W2 ⟨v2, rfl, k1⟩
  replace h1 := h1.trans k1
  clear k1
  obtain ⟨b0, b1, b2, b3, b4⟩ := box5 h1 HX.out hne
  go_wp2_with (first | (at_builtin; refine wpList_bf_append1g rfl _ _ _ rfl Tryz.underlying30 hi0 hz0 hz1 hz2 rfl rfl (by assumption) (by first | rfl | simp) (by first | omega | (simp only [len_app, List.length_cons, List.length_nil]; omega)) ?_; intro v1 W1 h1; obtain ⟨b0, b1, b2, b3, b4⟩ := box5 h1 HX.out hne) | (go_at_call 139; refine (is3D_any _ true (by decide) _).mono ?_; rintro e w ⟨rfl, rfl⟩) | (go_at_call 140; refine (isM_any _ true (by decide) _).mono ?_; rintro e w ⟨rfl, rfl⟩))
  refine (appendFloat_any m hi lo _ _ (((((((bs ++ [40]) ++ ftoaV hi lo x) ++ [32]) ++ ftoaV hi lo y) ++ [32]) ++ ftoaV hi lo z) ++ [32]) (Bf.own_ h1) (HT.out.of_bf h1 hrow) hm (by first | omega | (simp only [len_app, List.length_cons, List.length_nil]; omega))).mono ?_
  rintro e W2 ⟨v2, rfl, k1⟩
  replace h1 := h1.trans k1
  clear k1
  obtain ⟨b0, b1, b2, b3, b4⟩ := box5 h1 HX.out hne
  go_wp2_with (first | (at_builtin; refine wpList_bf_append1g rfl _ _ _ rfl Tryz.underlying30 hi0 hz0 hz1 hz2 rfl rfl (by assumption) (by first | rfl | simp) (by first | omega | (simp only [len_app, List.length_cons, List.length_nil]; omega)) ?_; intro v1 W1 h1; obtain ⟨b0, b1, b2, b3, b4⟩ := box5 h1 HX.out hne) | (go_at_call 139; refine (is3D_any _ true (by decide) _).mono ?_; rintro e w ⟨rfl, rfl⟩) | (go_at_call 140; refine (isM_any _ true (by decide) _).mono ?_; rintro e w ⟨rfl, rfl⟩))
  go_ret
  exact ⟨_, rfl, h1.pre_none HG.out⟩

end Go.Proofs.YtpbcfgehmalppaaGreatDoor
