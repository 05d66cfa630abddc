/- The GeoJSON of a point made of plain data, as the package writes it. -/
import Derived.Test.YtpbcfgehmalppaaDoorJsE
namespace Go.Proofs.YtpbcfgehmalppaaDoor
open Go.RowKit

theorem grown_of_below {w w1 : World} (h : Below w.heap.size w w1) : w.grownBy w1 none := only_of_below h none
theorem Bf.far7 {w0 W : World} {v : Value} {bs : List Int} (h : Bf w0 W none v bs) (hs : 7 ≤ w0.heap.size) : ∀ k, k < 7 → v.ownBlock ≠ some k := by
  intro k hk e
  rcases h.place with hp | ⟨g, hp, hl⟩
  · rw [hp] at e; cases e
  · rw [hp] at e; injection e with e; omega

theorem box6 {w0 W : World} {row : Option Nat} {v : Value} {bs : List Int} {g T : Nat} {a b c d e f : Value} (h : Bf w0 W row v bs) (hb : Blk w0 g T #[a, b, c, d, e, f]) (hne : row ≠ some g) :
    W.cell? ⟨g, 0, none⟩ = some a ∧ W.cell? ⟨g, 1, none⟩ = some b ∧ W.cell? ⟨g, 2, none⟩ = some c ∧ W.cell? ⟨g, 3, none⟩ = some d ∧ W.cell? ⟨g, 4, none⟩ = some e ∧ W.cell? ⟨g, 5, none⟩ = some f := by
  have h' := hb.grown h.grown (fun e => hne e.symm)
  exact ⟨h'.cell 0, h'.cell 1, h'.cell 2, h'.cell 3, h'.cell 4, h'.cell 5⟩

/-- What stands ahead of a point's coordinates. -/
def hdrJ : List Int := strB { data := #[123, 34, 116, 121, 112, 101, 34, 58, 34, 80, 111, 105, 110, 116, 34, 44, 34, 99, 111, 111, 114, 100, 105, 110, 97, 116, 101, 115, 34, 58] }

theorem coordJ_len (hi lo : Nat → Int) (q : Int) (p : Pl) (h0 : p.1 < 18446744073709551616) (h1 : p.2.1 < 18446744073709551616) (h2 : p.2.2.1 < 18446744073709551616) : (coordJ hi lo q p).length ≤ 6000 := by
  have l0 := ftoaV_len hi lo _ h0
  have l1 := ftoaV_len hi lo _ h1
  have l2 := ftoaV_len hi lo _ h2
  unfold coordJ
  split <;> simp only [List.length_append, List.length_cons, List.length_nil] <;> omega

set_option maxHeartbeats 4000000 in
set_option maxRecDepth 100000 in
theorem marshal_full (q : Int) (q0 : 0 ≤ q) (q1 : q ≤ 3) (x y z m : Nat) (hi lo : Nat → Int) (w : World) (ht : FtTabs w hi lo) (hx : x < 18446744073709551616) (hy : y < 18446744073709551616) (hz : z < 18446744073709551616) :
    Calls Tryd.prog 28 #[.agg #[.float .f64 x, .float .f64 y, .float .f64 z, .float .f64 m, .int .u8 q, .bool true]] w fun e w' =>
      ∃ v', e = .returned (.tuple #[v', .nilIface]) ∧ Bf w w' none v' (hdrJ ++ coordJ hi lo q (x, y, z, m) ++ [125]) := by
  obtain ⟨i0, hi0, hz0, hz1, hz2⟩ := info_parts info_u8
  have hbox : Blk (w.alloc (.cells #[.float .f64 x, .float .f64 y, .float .f64 z, .float .f64 m, .int .u8 q, .bool true] 69)) w.heap.size 69 #[.float .f64 x, .float .f64 y, .float .f64 z, .float .f64 m, .int .u8 q, .bool true] := Blk.new w _ _
  have hg0 : w.grownBy (w.alloc (.cells #[.float .f64 x, .float .f64 y, .float .f64 z, .float .f64 m, .int .u8 q, .bool true] 69)) none := World.grownBy_alloc w _ none
  have h1 : Bf (w.alloc (.cells #[.float .f64 x, .float .f64 y, .float .f64 z, .float .f64 m, .int .u8 q, .bool true] 69)) (w.alloc (.cells #[.float .f64 x, .float .f64 y, .float .f64 z, .float .f64 m, .int .u8 q, .bool true] 69)) none (.slice none 0 0) [] := Bf.nil _
  have hsz : 7 ≤ w.heap.size := ht.siz
  replace ht := ht.grown hg0 (by simp)
  have hcl := coordJ_len hi lo q (x, y, z, m) hx hy hz
  obtain ⟨b0, b1, b2, b3, b4, b5⟩ := box6 h1 hbox (by simp)
  have HX := Lib.hid hbox
  have HG := Lib.hid hg0
  have HT := Lib.hid ht
  have hhl : hdrJ.length = 30 := by kernel_rfl
  clear hbox hg0 ht
  go_enter Tryd.func28, Tryd.ntmps28
  go_wp2_with (at_builtin; refine wpList_bf_append_str rfl _ _ _ _ rfl Tryd.underlying32 Tryd.underlying9 hi0 hz0 hz1 hz2 rfl rfl (by assumption) (by show (0 : Nat) + 30 ≤ 140737488355328; omega) ?_; intro v1 W1 h1; obtain ⟨b0, b1, b2, b3, b4, b5⟩ := box6 h1 HX.out (by simp))
  have h2 : Bf (w.alloc (.cells #[.float .f64 x, .float .f64 y, .float .f64 z, .float .f64 m, .int .u8 q, .bool true] 69)) W1 none v1 hdrJ := h1
  clear h1
  refine (coordJ_any q q0 q1 x y z m hi lo _ _ hdrJ (Bf.own_ h2) (HT.out.of_bf h2 (by simp)) hx hy hz (h2.far7 (by simp; omega)) (by omega)).mono ?_
  rintro e W2 ⟨v2, rfl, k1⟩
  have h1 := h2.trans k1
  clear k1 h2
  generalize hcj : coordJ hi lo q (x, y, z, m) = cj at *
  generalize hhj : hdrJ = hj at *
  have HCJ := Lib.hid hcj
  have HHJ := Lib.hid hhj
  clear hcj hhj
  go_wp2_with (at_builtin; refine wpList_bf_append1g rfl _ _ _ rfl Tryd.underlying32 hi0 hz0 hz1 hz2 rfl rfl (by assumption) (by first | rfl | simp) (by first | omega | (simp only [len_app, List.length_cons, List.length_nil]; omega)) ?_; intro v1 W1 h1)
  go_ret2
  refine ⟨_, rfl, ?_⟩
  rw [HCJ.out, HHJ.out]
  exact h1.pre_none HG.out

set_option maxHeartbeats 4000000 in
set_option maxRecDepth 100000 in
theorem marshal_empty (q : Int) (w : World) (hsz : 7 ≤ w.heap.size) :
    Calls Tryd.prog 28 #[.agg #[.float .f64 0, .float .f64 0, .float .f64 0, .float .f64 0, .int .u8 q, .bool false]] w fun e w' =>
      ∃ v', e = .returned (.tuple #[v', .nilIface]) ∧ Bf w w' none v' (hdrJ ++ [91, 93] ++ [125]) := by
  obtain ⟨i0, hi0, hz0, hz1, hz2⟩ := info_parts info_u8
  have hbox : Blk (w.alloc (.cells #[.float .f64 0, .float .f64 0, .float .f64 0, .float .f64 0, .int .u8 q, .bool false] 69)) w.heap.size 69 #[.float .f64 0, .float .f64 0, .float .f64 0, .float .f64 0, .int .u8 q, .bool false] := Blk.new w _ _
  have hg0 : w.grownBy (w.alloc (.cells #[.float .f64 0, .float .f64 0, .float .f64 0, .float .f64 0, .int .u8 q, .bool false] 69)) none := World.grownBy_alloc w _ none
  have h1 : Bf (w.alloc (.cells #[.float .f64 0, .float .f64 0, .float .f64 0, .float .f64 0, .int .u8 q, .bool false] 69)) (w.alloc (.cells #[.float .f64 0, .float .f64 0, .float .f64 0, .float .f64 0, .int .u8 q, .bool false] 69)) none (.slice none 0 0) [] := Bf.nil _
  obtain ⟨b0, b1, b2, b3, b4, b5⟩ := box6 h1 hbox (by simp)
  have HX := Lib.hid hbox
  have HG := Lib.hid hg0
  have hhl : hdrJ.length = 30 := by kernel_rfl
  clear hbox hg0
  go_enter Tryd.func28, Tryd.ntmps28
  go_wp2_with (first | (at_builtin; refine wpList_bf_append_str rfl _ _ _ _ rfl Tryd.underlying32 Tryd.underlying9 hi0 hz0 hz1 hz2 rfl rfl (by assumption) (by show (0 : Nat) + 30 ≤ 140737488355328; omega) ?_; intro v1 W1 h0; have h1 := (show Bf (w.alloc (.cells #[.float .f64 0, .float .f64 0, .float .f64 0, .float .f64 0, .int .u8 q, .bool false] 69)) W1 none v1 hdrJ from h0); clear h0; obtain ⟨b0, b1, b2, b3, b4, b5⟩ := box6 h1 HX.out (by simp); generalize hhj : hdrJ = hj at *; have HHJ := Lib.hid hhj; clear hhj) | (at_builtin; refine wpList_bf_append1g rfl _ _ _ rfl Tryd.underlying32 hi0 hz0 hz1 hz2 rfl rfl (by assumption) (by first | rfl | simp) (by first | omega | (simp only [len_app, List.length_cons, List.length_nil]; omega)) ?_; intro v1 W1 h1) | (at_builtin; refine wpList_bf_appendN [91, 93] rfl _ _ _ rfl Tryd.underlying32 hi0 hz0 hz1 hz2 rfl rfl (by assumption) (by first | rfl | simp) rfl (by first | omega | (simp only [len_app, List.length_cons, List.length_nil]; omega)) ?_; intro v1 W1 h1))
  go_ret2
  refine ⟨_, rfl, ?_⟩
  rw [HHJ.out]
  exact h1.pre_none HG.out

theorem json_any (v : Value) (w : World) : Calls Tryd.prog 26 #[v, .nilIface] w fun e w' => e = .returned (.tuple #[v, .bool true]) ∧ w' = w := by
  go_enter Tryd.func26, Tryd.ntmps26
  go_wp2
  go_ret2
  exact ⟨rfl, rfl⟩

/-- The GeoJSON of a point made of plain data. -/
def pointJ (hi lo : Nat → Int) (d : Int) (ns : List Nat) : List Int := hdrJ ++ (if wd (d % 4) ≤ ns.length then coordJ hi lo (d % 4) (ptN (d % 4) ns 0) else [91, 93]) ++ [125]

theorem getD_lt {ns : List Nat} (h : ∀ b ∈ ns, b < 18446744073709551616) (j : Nat) : ns.getD j 0 < 18446744073709551616 := by
  rw [List.getD_eq_getElem?_getD]
  rcases Nat.lt_or_ge j ns.length with hj | hj
  · rw [List.getElem?_eq_getElem hj]; exact h _ (List.getElem_mem _)
  · rw [List.getElem?_eq_none hj]; simp
theorem ptN_lt {q : Int} {ns : List Nat} (h : ∀ b ∈ ns, b < 18446744073709551616) (i : Nat) : (ptN q ns i).1 < 18446744073709551616 ∧ (ptN q ns i).2.1 < 18446744073709551616 ∧ (ptN q ns i).2.2.1 < 18446744073709551616 ∧ (ptN q ns i).2.2.2 < 18446744073709551616 := by
  unfold ptN
  refine ⟨getD_lt h _, getD_lt h _, ?_, ?_⟩
  · simp only; split
    · exact getD_lt h _
    · simp
  · simp only; split
    · exact getD_lt h _
    · simp

theorem marshal_any (d : Int) (ns : List Nat) (hi lo : Nat → Int) (w : World) (ht : FtTabs w hi lo) (hb : ∀ b ∈ ns, b < 18446744073709551616) :
    Calls Tryd.prog 28 #[ptV d ns] w fun e w' => ∃ v', e = .returned (.tuple #[v', .nilIface]) ∧ Bf w w' none v' (pointJ hi lo d ns) := by
  unfold ptV pointJ
  obtain ⟨h0, h1, h2, _⟩ := ptN_lt (q := d % 4) hb 0
  split
  · exact marshal_full (d % 4) (by omega) (by omega) _ _ _ _ hi lo w ht h0 h1 h2
  · exact marshal_empty (d % 4) w ht.siz

set_option maxHeartbeats 1000000 in
set_option maxRecDepth 100000 in
theorem PointJSON_any {B : Nat} {A K : Option Addr} {n m c c' : Nat} {ns : List Nat} (d : Int) (hi lo : Nat → Int) (w : World) (h : Reads w B 1 A n (flV ns)) (hb : ∀ b ∈ ns, b < 18446744073709551616) (hB : B ≤ w.heap.size) (hn : n ≤ 1000000000) (ht : FtTabs w hi lo) :
    Calls Tryd.prog 12 #[.agg #[.int .i64 1, .int .i64 d, .slice A n c, .slice K m c']] w fun e w' =>
      ∃ v', e = .returned (.tuple #[v', .bool true]) ∧ Bf w w' none v' (pointJ hi lo d ns) := by
  have hg0 : w.grownBy (w.alloc (.cells #[.int .i64 1, .int .i64 d, .slice A n c, .slice K m c'] 37)) none := World.grownBy_alloc w _ none
  have hp := point_any (K := K) (m := m) (c := c) (c' := c') d (w.alloc (.cells #[.int .i64 1, .int .i64 d, .slice A n c, .slice K m c'] 37)) (h.alloc hB _) (by simp; omega) hn
  have HG := Lib.hid hg0
  have HP := Lib.hid hp
  have HT := Lib.hid (ht.grown hg0 (by simp))
  have HB := Lib.hid hb
  clear hg0 hp ht hb h
  generalize hpv : ptV d ns = pv at *
  have HPV := Lib.hid hpv
  clear hpv
  go_enter Tryd.func12, Tryd.ntmps12
  go_wp2_with fail
  refine HP.out.mono ?_
  rintro e w1 ⟨rfl, h1⟩
  have hm := marshal_any d ns hi lo w1 (HT.out.below h1) HB.out
  rw [HPV.out] at hm
  have HM := Lib.hid hm
  have H1 := Lib.hid h1
  clear hm h1
  go_wp2_with fail
  refine HM.out.mono ?_
  rintro e w2 ⟨v2, rfl, h2⟩
  have H2 := Lib.hid h2
  clear h2
  go_wp2_with fail
  refine (json_any v2 _).mono ?_
  rintro e w3 ⟨rfl, rfl⟩
  go_wp2
  go_ret2
  exact ⟨_, rfl, (H2.out.pre_none (grown_of_below H1.out)).pre_none HG.out⟩

end Go.Proofs.YtpbcfgehmalppaaDoor
