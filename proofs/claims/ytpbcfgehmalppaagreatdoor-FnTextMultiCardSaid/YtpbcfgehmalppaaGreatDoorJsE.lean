/- A place in GeoJSON; the GeoJSON of a point, as the package writes it (printed by gen_json.py). -/
import Derived.Test.YtpbcfgehmalppaaGreatDoorJsD
import Derived.Test.YtpbcfgehmalppaaGreatDoorFtH
namespace Go.Proofs.YtpbcfgehmalppaaGreatDoor
open Go.RowKit

theorem Bf.to_rw {w0 W : World} {row : Option Nat} {v : Value} {bs : List Int} (h : Bf w0 W row v bs) : Rw 5 w0 W row v (bytesV bs) := ⟨by rw [bytesV_length]; exact h.own, h.grown, h.place⟩
theorem Rw.to_bf {w0 W : World} {row : Option Nat} {v : Value} {bs : List Int} (h : Rw 5 w0 W row v (bytesV bs)) : Bf w0 W row v bs := ⟨by have := h.own; rwa [bytesV_length] at this, h.grown, h.place⟩

theorem wpList_bf_appendN {P : Program} {ops : Array Oper} {rest : List Oper} {o : Oper} {a : Act} {Q : Exit → Act → World → Prop} (ns : List Int) (hgd : o.guard = none) (s x : Operand) (t : TypeId)
    (ho : o.op = .call { callee := .builtin .append, args := #[s, x], argTypes := #[t, t] })
    {w0 W : World} {row : Option Nat} {v : Value} {bs : List Int} {m c g : Nat} {i : TypeInfo} (ht : P.underlying t = some (.slice 5)) (hi : P.info? 5 = some i) (hz : i.zero = some (.int .u8 0)) (hsz : i.size = 1) (hby : i.bytes = 1)
    (hs : a.eval s = v) (hx : a.eval x = .slice (some ⟨g, 0, none⟩) m c) (h : Bf w0 W row v bs) (hg : g = W.heap.size) (hm : ns.length = m) (hb : bs.length + m ≤ 140737488355328)
    (hk : ∀ v1 W1, Bf w0 W1 row v1 (bs ++ ns) → wpList P ops Q rest (a.put o.dst v1) W1) : wpList P ops Q (o :: rest) a (W.alloc (.cells (bytesV ns).toArray 5)) := by
  refine wpList_rw_append hgd s x t ho ht hi hz rfl hsz hby hs hx h.to_rw hg (by rw [bytesV_length]; exact hm) (bytesV_one ns) (by rw [bytesV_length]; omega) (by rw [bytesV_length]; omega) fun v1 W1 h1 => ?_
  exact hk v1 W1 (Rw.to_bf (by rw [bytesV_append]; exact h1))

set_option maxHeartbeats 4000000 in
set_option maxRecDepth 100000 in
theorem coordJ_0 (x y z m : Nat) (hi lo : Nat → Int) (w : World) (v : Value) (bs : List Int) (ho : Own w v bs) (ht : FtTabs w hi lo) (hx : x < 18446744073709551616) (hy : y < 18446744073709551616) (hz : z < 18446744073709551616)
    (hrow : ∀ k, k < 7 → v.ownBlock ≠ some k) (hl : bs.length ≤ 70368744100000) :
    Calls Tryz.prog 132 #[v, .agg #[.float .f64 x, .float .f64 y, .float .f64 z, .float .f64 m, .int .u8 0]] w fun e w' =>
      ∃ v', e = .returned v' ∧ Bf w w' v.ownBlock v' (((((bs ++ [91]) ++ ftoaV hi lo x) ++ [44]) ++ ftoaV hi lo y) ++ [93]) := by
  obtain ⟨i0, hi0, hz0, hz1, hz2⟩ := info_parts info_u8
  have lx := ftoaV_len hi lo x hx
  have ly := ftoaV_len hi lo y hy
  have lz := ftoaV_len hi lo z hz
  have hbox : Blk (w.alloc (.cells #[.float .f64 x, .float .f64 y, .float .f64 z, .float .f64 m, .int .u8 0] 50)) w.heap.size 50 #[.float .f64 x, .float .f64 y, .float .f64 z, .float .f64 m, .int .u8 0] := Blk.new w _ _
  have hg0 : w.grownBy (w.alloc (.cells #[.float .f64 x, .float .f64 y, .float .f64 z, .float .f64 m, .int .u8 0] 50)) none := World.grownBy_alloc w _ none
  have hne : v.ownBlock ≠ some w.heap.size := fun e => by have := (ho.lt _ e).2; omega
  have h1 : Bf (w.alloc (.cells #[.float .f64 x, .float .f64 y, .float .f64 z, .float .f64 m, .int .u8 0] 50)) (w.alloc (.cells #[.float .f64 x, .float .f64 y, .float .f64 z, .float .f64 m, .int .u8 0] 50)) v.ownBlock v bs := Bf.start (ho.alloc _)
  replace ht := ht.grown hg0 (by simp)
  obtain ⟨b0, b1, b2, b3, b4⟩ := box5 h1 hbox hne
  have HX := Lib.hid hbox
  have HG := Lib.hid hg0
  have HT := Lib.hid ht
  clear hbox hg0 ht ho
  go_enter Tryz.func132, Tryz.ntmps132
  go_wp2_with (first | (at_builtin; refine wpList_bf_append1g rfl _ _ _ rfl Tryz.underlying30 hi0 hz0 hz1 hz2 rfl rfl (by assumption) (by first | rfl | simp) (by first | omega | (simp only [len_app, List.length_cons, List.length_nil]; omega)) ?_; intro v1 W1 h1; obtain ⟨b0, b1, b2, b3, b4⟩ := box5 h1 HX.out hne) | (go_at_call 139; refine (is3D_any _ false (by decide) _).mono ?_; rintro e w ⟨rfl, rfl⟩))
  refine (appendFloat_any x hi lo _ _ (bs ++ [91]) (Bf.own_ h1) (HT.out.of_bf h1 hrow) hx (by first | omega | (simp only [len_app, List.length_cons, List.length_nil]; omega))).mono ?_
  rintro e W2 ⟨v2, rfl, k1⟩
  replace h1 := h1.trans k1
  clear k1
  obtain ⟨b0, b1, b2, b3, b4⟩ := box5 h1 HX.out hne
  go_wp2_with (first | (at_builtin; refine wpList_bf_append1g rfl _ _ _ rfl Tryz.underlying30 hi0 hz0 hz1 hz2 rfl rfl (by assumption) (by first | rfl | simp) (by first | omega | (simp only [len_app, List.length_cons, List.length_nil]; omega)) ?_; intro v1 W1 h1; obtain ⟨b0, b1, b2, b3, b4⟩ := box5 h1 HX.out hne) | (go_at_call 139; refine (is3D_any _ false (by decide) _).mono ?_; rintro e w ⟨rfl, rfl⟩))
  refine (appendFloat_any y hi lo _ _ (((bs ++ [91]) ++ ftoaV hi lo x) ++ [44]) (Bf.own_ h1) (HT.out.of_bf h1 hrow) hy (by first | omega | (simp only [len_app, List.length_cons, List.length_nil]; omega))).mono ?_
  rintro e W2 ⟨v2, rfl, k1⟩
  replace h1 := h1.trans k1
  clear k1
  obtain ⟨b0, b1, b2, b3, b4⟩ := box5 h1 HX.out hne
  go_wp2_with (first | (at_builtin; refine wpList_bf_append1g rfl _ _ _ rfl Tryz.underlying30 hi0 hz0 hz1 hz2 rfl rfl (by assumption) (by first | rfl | simp) (by first | omega | (simp only [len_app, List.length_cons, List.length_nil]; omega)) ?_; intro v1 W1 h1; obtain ⟨b0, b1, b2, b3, b4⟩ := box5 h1 HX.out hne) | (go_at_call 139; refine (is3D_any _ false (by decide) _).mono ?_; rintro e w ⟨rfl, rfl⟩))
  go_ret
  exact ⟨_, rfl, h1.pre_none HG.out⟩

set_option maxHeartbeats 4000000 in
set_option maxRecDepth 100000 in
theorem coordJ_1 (x y z m : Nat) (hi lo : Nat → Int) (w : World) (v : Value) (bs : List Int) (ho : Own w v bs) (ht : FtTabs w hi lo) (hx : x < 18446744073709551616) (hy : y < 18446744073709551616) (hz : z < 18446744073709551616)
    (hrow : ∀ k, k < 7 → v.ownBlock ≠ some k) (hl : bs.length ≤ 70368744100000) :
    Calls Tryz.prog 132 #[v, .agg #[.float .f64 x, .float .f64 y, .float .f64 z, .float .f64 m, .int .u8 1]] w fun e w' =>
      ∃ v', e = .returned v' ∧ Bf w w' v.ownBlock v' (((((((bs ++ [91]) ++ ftoaV hi lo x) ++ [44]) ++ ftoaV hi lo y) ++ [44]) ++ ftoaV hi lo z) ++ [93]) := by
  obtain ⟨i0, hi0, hz0, hz1, hz2⟩ := info_parts info_u8
  have lx := ftoaV_len hi lo x hx
  have ly := ftoaV_len hi lo y hy
  have lz := ftoaV_len hi lo z hz
  have hbox : Blk (w.alloc (.cells #[.float .f64 x, .float .f64 y, .float .f64 z, .float .f64 m, .int .u8 1] 50)) w.heap.size 50 #[.float .f64 x, .float .f64 y, .float .f64 z, .float .f64 m, .int .u8 1] := Blk.new w _ _
  have hg0 : w.grownBy (w.alloc (.cells #[.float .f64 x, .float .f64 y, .float .f64 z, .float .f64 m, .int .u8 1] 50)) none := World.grownBy_alloc w _ none
  have hne : v.ownBlock ≠ some w.heap.size := fun e => by have := (ho.lt _ e).2; omega
  have h1 : Bf (w.alloc (.cells #[.float .f64 x, .float .f64 y, .float .f64 z, .float .f64 m, .int .u8 1] 50)) (w.alloc (.cells #[.float .f64 x, .float .f64 y, .float .f64 z, .float .f64 m, .int .u8 1] 50)) v.ownBlock v bs := Bf.start (ho.alloc _)
  replace ht := ht.grown hg0 (by simp)
  obtain ⟨b0, b1, b2, b3, b4⟩ := box5 h1 hbox hne
  have HX := Lib.hid hbox
  have HG := Lib.hid hg0
  have HT := Lib.hid ht
  clear hbox hg0 ht ho
  go_enter Tryz.func132, Tryz.ntmps132
  go_wp2_with (first | (at_builtin; refine wpList_bf_append1g rfl _ _ _ rfl Tryz.underlying30 hi0 hz0 hz1 hz2 rfl rfl (by assumption) (by first | rfl | simp) (by first | omega | (simp only [len_app, List.length_cons, List.length_nil]; omega)) ?_; intro v1 W1 h1; obtain ⟨b0, b1, b2, b3, b4⟩ := box5 h1 HX.out hne) | (go_at_call 139; refine (is3D_any _ true (by decide) _).mono ?_; rintro e w ⟨rfl, rfl⟩))
  refine (appendFloat_any x hi lo _ _ (bs ++ [91]) (Bf.own_ h1) (HT.out.of_bf h1 hrow) hx (by first | omega | (simp only [len_app, List.length_cons, List.length_nil]; omega))).mono ?_
  rintro e W2 ⟨v2, rfl, k1⟩
  replace h1 := h1.trans k1
  clear k1
  obtain ⟨b0, b1, b2, b3, b4⟩ := box5 h1 HX.out hne
  go_wp2_with (first | (at_builtin; refine wpList_bf_append1g rfl _ _ _ rfl Tryz.underlying30 hi0 hz0 hz1 hz2 rfl rfl (by assumption) (by first | rfl | simp) (by first | omega | (simp only [len_app, List.length_cons, List.length_nil]; omega)) ?_; intro v1 W1 h1; obtain ⟨b0, b1, b2, b3, b4⟩ := box5 h1 HX.out hne) | (go_at_call 139; refine (is3D_any _ true (by decide) _).mono ?_; rintro e w ⟨rfl, rfl⟩))
  refine (appendFloat_any y hi lo _ _ (((bs ++ [91]) ++ ftoaV hi lo x) ++ [44]) (Bf.own_ h1) (HT.out.of_bf h1 hrow) hy (by first | omega | (simp only [len_app, List.length_cons, List.length_nil]; omega))).mono ?_
  rintro e W2 ⟨v2, rfl, k1⟩
  replace h1 := h1.trans k1
  clear k1
  obtain ⟨b0, b1, b2, b3, b4⟩ := box5 h1 HX.out hne
  go_wp2_with (first | (at_builtin; refine wpList_bf_append1g rfl _ _ _ rfl Tryz.underlying30 hi0 hz0 hz1 hz2 rfl rfl (by assumption) (by first | rfl | simp) (by first | omega | (simp only [len_app, List.length_cons, List.length_nil]; omega)) ?_; intro v1 W1 h1; obtain ⟨b0, b1, b2, b3, b4⟩ := box5 h1 HX.out hne) | (go_at_call 139; refine (is3D_any _ true (by decide) _).mono ?_; rintro e w ⟨rfl, rfl⟩))
  refine (appendFloat_any z hi lo _ _ (((((bs ++ [91]) ++ ftoaV hi lo x) ++ [44]) ++ ftoaV hi lo y) ++ [44]) (Bf.own_ h1) (HT.out.of_bf h1 hrow) hz (by first | omega | (simp only [len_app, List.length_cons, List.length_nil]; omega))).mono ?_
  rintro e W2 ⟨v2, rfl, k1⟩
  replace h1 := h1.trans k1
  clear k1
  obtain ⟨b0, b1, b2, b3, b4⟩ := box5 h1 HX.out hne
  go_wp2_with (first | (at_builtin; refine wpList_bf_append1g rfl _ _ _ rfl Tryz.underlying30 hi0 hz0 hz1 hz2 rfl rfl (by assumption) (by first | rfl | simp) (by first | omega | (simp only [len_app, List.length_cons, List.length_nil]; omega)) ?_; intro v1 W1 h1; obtain ⟨b0, b1, b2, b3, b4⟩ := box5 h1 HX.out hne) | (go_at_call 139; refine (is3D_any _ true (by decide) _).mono ?_; rintro e w ⟨rfl, rfl⟩))
  go_ret
  exact ⟨_, rfl, h1.pre_none HG.out⟩

set_option maxHeartbeats 4000000 in
set_option maxRecDepth 100000 in
theorem coordJ_2 (x y z m : Nat) (hi lo : Nat → Int) (w : World) (v : Value) (bs : List Int) (ho : Own w v bs) (ht : FtTabs w hi lo) (hx : x < 18446744073709551616) (hy : y < 18446744073709551616) (hz : z < 18446744073709551616)
    (hrow : ∀ k, k < 7 → v.ownBlock ≠ some k) (hl : bs.length ≤ 70368744100000) :
    Calls Tryz.prog 132 #[v, .agg #[.float .f64 x, .float .f64 y, .float .f64 z, .float .f64 m, .int .u8 2]] w fun e w' =>
      ∃ v', e = .returned v' ∧ Bf w w' v.ownBlock v' (((((bs ++ [91]) ++ ftoaV hi lo x) ++ [44]) ++ ftoaV hi lo y) ++ [93]) := by
  obtain ⟨i0, hi0, hz0, hz1, hz2⟩ := info_parts info_u8
  have lx := ftoaV_len hi lo x hx
  have ly := ftoaV_len hi lo y hy
  have lz := ftoaV_len hi lo z hz
  have hbox : Blk (w.alloc (.cells #[.float .f64 x, .float .f64 y, .float .f64 z, .float .f64 m, .int .u8 2] 50)) w.heap.size 50 #[.float .f64 x, .float .f64 y, .float .f64 z, .float .f64 m, .int .u8 2] := Blk.new w _ _
  have hg0 : w.grownBy (w.alloc (.cells #[.float .f64 x, .float .f64 y, .float .f64 z, .float .f64 m, .int .u8 2] 50)) none := World.grownBy_alloc w _ none
  have hne : v.ownBlock ≠ some w.heap.size := fun e => by have := (ho.lt _ e).2; omega
  have h1 : Bf (w.alloc (.cells #[.float .f64 x, .float .f64 y, .float .f64 z, .float .f64 m, .int .u8 2] 50)) (w.alloc (.cells #[.float .f64 x, .float .f64 y, .float .f64 z, .float .f64 m, .int .u8 2] 50)) v.ownBlock v bs := Bf.start (ho.alloc _)
  replace ht := ht.grown hg0 (by simp)
  obtain ⟨b0, b1, b2, b3, b4⟩ := box5 h1 hbox hne
  have HX := Lib.hid hbox
  have HG := Lib.hid hg0
  have HT := Lib.hid ht
  clear hbox hg0 ht ho
  go_enter Tryz.func132, Tryz.ntmps132
  go_wp2_with (first | (at_builtin; refine wpList_bf_append1g rfl _ _ _ rfl Tryz.underlying30 hi0 hz0 hz1 hz2 rfl rfl (by assumption) (by first | rfl | simp) (by first | omega | (simp only [len_app, List.length_cons, List.length_nil]; omega)) ?_; intro v1 W1 h1; obtain ⟨b0, b1, b2, b3, b4⟩ := box5 h1 HX.out hne) | (go_at_call 139; refine (is3D_any _ false (by decide) _).mono ?_; rintro e w ⟨rfl, rfl⟩))
  refine (appendFloat_any x hi lo _ _ (bs ++ [91]) (Bf.own_ h1) (HT.out.of_bf h1 hrow) hx (by first | omega | (simp only [len_app, List.length_cons, List.length_nil]; omega))).mono ?_
  rintro e W2 ⟨v2, rfl, k1⟩
  replace h1 := h1.trans k1
  clear k1
  obtain ⟨b0, b1, b2, b3, b4⟩ := box5 h1 HX.out hne
  go_wp2_with (first | (at_builtin; refine wpList_bf_append1g rfl _ _ _ rfl Tryz.underlying30 hi0 hz0 hz1 hz2 rfl rfl (by assumption) (by first | rfl | simp) (by first | omega | (simp only [len_app, List.length_cons, List.length_nil]; omega)) ?_; intro v1 W1 h1; obtain ⟨b0, b1, b2, b3, b4⟩ := box5 h1 HX.out hne) | (go_at_call 139; refine (is3D_any _ false (by decide) _).mono ?_; rintro e w ⟨rfl, rfl⟩))
  refine (appendFloat_any y hi lo _ _ (((bs ++ [91]) ++ ftoaV hi lo x) ++ [44]) (Bf.own_ h1) (HT.out.of_bf h1 hrow) hy (by first | omega | (simp only [len_app, List.length_cons, List.length_nil]; omega))).mono ?_
  rintro e W2 ⟨v2, rfl, k1⟩
  replace h1 := h1.trans k1
  clear k1
  obtain ⟨b0, b1, b2, b3, b4⟩ := box5 h1 HX.out hne
  go_wp2_with (first | (at_builtin; refine wpList_bf_append1g rfl _ _ _ rfl Tryz.underlying30 hi0 hz0 hz1 hz2 rfl rfl (by assumption) (by first | rfl | simp) (by first | omega | (simp only [len_app, List.length_cons, List.length_nil]; omega)) ?_; intro v1 W1 h1; obtain ⟨b0, b1, b2, b3, b4⟩ := box5 h1 HX.out hne) | (go_at_call 139; refine (is3D_any _ false (by decide) _).mono ?_; rintro e w ⟨rfl, rfl⟩))
  go_ret
  exact ⟨_, rfl, h1.pre_none HG.out⟩

set_option maxHeartbeats 4000000 in
set_option maxRecDepth 100000 in
theorem coordJ_3 (x y z m : Nat) (hi lo : Nat → Int) (w : World) (v : Value) (bs : List Int) (ho : Own w v bs) (ht : FtTabs w hi lo) (hx : x < 18446744073709551616) (hy : y < 18446744073709551616) (hz : z < 18446744073709551616)
    (hrow : ∀ k, k < 7 → v.ownBlock ≠ some k) (hl : bs.length ≤ 70368744100000) :
    Calls Tryz.prog 132 #[v, .agg #[.float .f64 x, .float .f64 y, .float .f64 z, .float .f64 m, .int .u8 3]] w fun e w' =>
      ∃ v', e = .returned v' ∧ Bf w w' v.ownBlock v' (((((((bs ++ [91]) ++ ftoaV hi lo x) ++ [44]) ++ ftoaV hi lo y) ++ [44]) ++ ftoaV hi lo z) ++ [93]) := by
  obtain ⟨i0, hi0, hz0, hz1, hz2⟩ := info_parts info_u8
  have lx := ftoaV_len hi lo x hx
  have ly := ftoaV_len hi lo y hy
  have lz := ftoaV_len hi lo z hz
  have hbox : Blk (w.alloc (.cells #[.float .f64 x, .float .f64 y, .float .f64 z, .float .f64 m, .int .u8 3] 50)) w.heap.size 50 #[.float .f64 x, .float .f64 y, .float .f64 z, .float .f64 m, .int .u8 3] := Blk.new w _ _
  have hg0 : w.grownBy (w.alloc (.cells #[.float .f64 x, .float .f64 y, .float .f64 z, .float .f64 m, .int .u8 3] 50)) none := World.grownBy_alloc w _ none
  have hne : v.ownBlock ≠ some w.heap.size := fun e => by have := (ho.lt _ e).2; omega
  have h1 : Bf (w.alloc (.cells #[.float .f64 x, .float .f64 y, .float .f64 z, .float .f64 m, .int .u8 3] 50)) (w.alloc (.cells #[.float .f64 x, .float .f64 y, .float .f64 z, .float .f64 m, .int .u8 3] 50)) v.ownBlock v bs := Bf.start (ho.alloc _)
  replace ht := ht.grown hg0 (by simp)
  obtain ⟨b0, b1, b2, b3, b4⟩ := box5 h1 hbox hne
  have HX := Lib.hid hbox
  have HG := Lib.hid hg0
  have HT := Lib.hid ht
  clear hbox hg0 ht ho
  go_enter Tryz.func132, Tryz.ntmps132
  go_wp2_with (first | (at_builtin; refine wpList_bf_append1g rfl _ _ _ rfl Tryz.underlying30 hi0 hz0 hz1 hz2 rfl rfl (by assumption) (by first | rfl | simp) (by first | omega | (simp only [len_app, List.length_cons, List.length_nil]; omega)) ?_; intro v1 W1 h1; obtain ⟨b0, b1, b2, b3, b4⟩ := box5 h1 HX.out hne) | (go_at_call 139; refine (is3D_any _ true (by decide) _).mono ?_; rintro e w ⟨rfl, rfl⟩))
  refine (appendFloat_any x hi lo _ _ (bs ++ [91]) (Bf.own_ h1) (HT.out.of_bf h1 hrow) hx (by first | omega | (simp only [len_app, List.length_cons, List.length_nil]; omega))).mono ?_
  rintro e W2 ⟨v2, rfl, k1⟩
  replace h1 := h1.trans k1
  clear k1
  obtain ⟨b0, b1, b2, b3, b4⟩ := box5 h1 HX.out hne
  go_wp2_with (first | (at_builtin; refine wpList_bf_append1g rfl _ _ _ rfl Tryz.underlying30 hi0 hz0 hz1 hz2 rfl rfl (by assumption) (by first | rfl | simp) (by first | omega | (simp only [len_app, List.length_cons, List.length_nil]; omega)) ?_; intro v1 W1 h1; obtain ⟨b0, b1, b2, b3, b4⟩ := box5 h1 HX.out hne) | (go_at_call 139; refine (is3D_any _ true (by decide) _).mono ?_; rintro e w ⟨rfl, rfl⟩))
  refine (appendFloat_any y hi lo _ _ (((bs ++ [91]) ++ ftoaV hi lo x) ++ [44]) (Bf.own_ h1) (HT.out.of_bf h1 hrow) hy (by first | omega | (simp only [len_app, List.length_cons, List.length_nil]; omega))).mono ?_
  rintro e W2 ⟨v2, rfl, k1⟩
  replace h1 := h1.trans k1
  clear k1
  obtain ⟨b0, b1, b2, b3, b4⟩ := box5 h1 HX.out hne
  go_wp2_with (first | (at_builtin; refine wpList_bf_append1g rfl _ _ _ rfl Tryz.underlying30 hi0 hz0 hz1 hz2 rfl rfl (by assumption) (by first | rfl | simp) (by first | omega | (simp only [len_app, List.length_cons, List.length_nil]; omega)) ?_; intro v1 W1 h1; obtain ⟨b0, b1, b2, b3, b4⟩ := box5 h1 HX.out hne) | (go_at_call 139; refine (is3D_any _ true (by decide) _).mono ?_; rintro e w ⟨rfl, rfl⟩))
  refine (appendFloat_any z hi lo _ _ (((((bs ++ [91]) ++ ftoaV hi lo x) ++ [44]) ++ ftoaV hi lo y) ++ [44]) (Bf.own_ h1) (HT.out.of_bf h1 hrow) hz (by first | omega | (simp only [len_app, List.length_cons, List.length_nil]; omega))).mono ?_
  rintro e W2 ⟨v2, rfl, k1⟩
  replace h1 := h1.trans k1
  clear k1
  obtain ⟨b0, b1, b2, b3, b4⟩ := box5 h1 HX.out hne
  go_wp2_with (first | (at_builtin; refine wpList_bf_append1g rfl _ _ _ rfl Tryz.underlying30 hi0 hz0 hz1 hz2 rfl rfl (by assumption) (by first | rfl | simp) (by first | omega | (simp only [len_app, List.length_cons, List.length_nil]; omega)) ?_; intro v1 W1 h1; obtain ⟨b0, b1, b2, b3, b4⟩ := box5 h1 HX.out hne) | (go_at_call 139; refine (is3D_any _ true (by decide) _).mono ?_; rintro e w ⟨rfl, rfl⟩))
  go_ret
  exact ⟨_, rfl, h1.pre_none HG.out⟩

/-- A place in GeoJSON. -/
def coordJ (hi lo : Nat → Int) (q : Int) (p : Pl) : List Int :=
  [91] ++ (ftoaV hi lo p.1 ++ ([44] ++ (ftoaV hi lo p.2.1 ++ ((if q % 2 = 1 then [44] ++ ftoaV hi lo p.2.2.1 else []) ++ [93]))))

theorem coordJ_any (q : Int) (q0 : 0 ≤ q) (q1 : q ≤ 3) (x y z m : Nat) (hi lo : Nat → Int) (w : World) (v : Value) (bs : List Int) (ho : Own w v bs) (ht : FtTabs w hi lo) (hx : x < 18446744073709551616) (hy : y < 18446744073709551616) (hz : z < 18446744073709551616)
    (hrow : ∀ k, k < 7 → v.ownBlock ≠ some k) (hl : bs.length ≤ 70368744100000) :
    Calls Tryz.prog 132 #[v, .agg #[.float .f64 x, .float .f64 y, .float .f64 z, .float .f64 m, .int .u8 q]] w fun e w' =>
      ∃ v', e = .returned v' ∧ Bf w w' v.ownBlock v' (bs ++ coordJ hi lo q (x, y, z, m)) := by
  have h : q = 0 ∨ q = 1 ∨ q = 2 ∨ q = 3 := by omega
  rcases h with rfl | rfl | rfl | rfl
  · simpa [coordJ, List.append_assoc] using coordJ_0 x y z m hi lo w v bs ho ht hx hy hz hrow hl
  · simpa [coordJ, List.append_assoc] using coordJ_1 x y z m hi lo w v bs ho ht hx hy hz hrow hl
  · simpa [coordJ, List.append_assoc] using coordJ_2 x y z m hi lo w v bs ho ht hx hy hz hrow hl
  · simpa [coordJ, List.append_assoc] using coordJ_3 x y z m hi lo w v bs ho ht hx hy hz hrow hl

end Go.Proofs.YtpbcfgehmalppaaGreatDoor
