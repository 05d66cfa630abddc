import Derived.Test.YtofdccmmagcamaaGreatDoorBxP
import Derived.Test.YtofdccmmagcamaaGreatDoorMhO
import Derived.Test.YtofdccmmagcamaaGreatDoorMhL
import Derived.Deep.Cut
/- The parser of bytes: a point. -/
set_option maxHeartbeats 8000000
set_option linter.unusedSimpArgs false
set_option linter.unusedVariables false
namespace Go.Proofs.YtofdccmmagcamaaGreatDoor
open Go.RowKit

attribute [local go_sem] run_store_float

set_option maxRecDepth 100000 in
theorem parsePoint_0f {W : World} {B p : Nat} {no : Bool} (big : Bool) {x y : Nat} {bs : List Int} (hb : x < 18446744073709551616 ∧ y < 18446744073709551616) (h1 : feq x x = true) (h2 : feq y y = true) (h : Wp W B p (if big then 0 else 1) no (uB big 8 x ++ (uB big 8 y ++ bs))) :
    Calls Tryz.prog 179 #[.pointer (some ⟨p, 0, none⟩), .int .u8 0] W fun e w' => e = .returned (.tuple #[.agg #[.float .f64 x, .float .f64 y, .float .f64 0, .float .f64 0, .int .u8 0, .bool true], .nilIface]) ∧ Wp w' B p (if big then 0 else 1) no bs ∧ W.grownBy w' (some p) := by
  have HF : Hid (∀ (w : World) (v : Nat) (r : List Int), v < 18446744073709551616 → Wp w B p (if big then 0 else 1) no (uB big 8 v ++ r) → Calls Tryz.prog 212 #[.pointer (some ⟨p, 0, none⟩)] w fun e w' => e = .returned (.tuple #[.float .f64 v, .nilIface]) ∧ Wp w' B p (if big then 0 else 1) no r ∧ w.grownBy w' (some p)) := Hd (fun w v r hv hw => parseFloat64_any big v hv hw)
  generalize (if big = true then (0 : Int) else 1) = bo at *
  have hlr := h.lt
  have HBN := Hd hb
  have hw0 := h.keep ((Below.refl W.heap.size W).alloc (Nat.le_refl _) (.cells #[.float .f64 0, .float .f64 0, .float .f64 0, .float .f64 0, .int .u8 0, .bool false] 109))
  have hw1 := hw0.keep ((Below.refl _ _).alloc (Nat.le_refl _) (.cells #[.float .f64 0, .float .f64 0, .float .f64 0, .float .f64 0, .int .u8 0] 107))
  have r1 := (Blk.new W 109 #[.float .f64 0, .float .f64 0, .float .f64 0, .float .f64 0, .int .u8 0, .bool false]).alloc (.cells #[.float .f64 0, .float .f64 0, .float .f64 0, .float .f64 0, .int .u8 0] 107)
  have c1 := Blk.new (W.alloc (.cells #[.float .f64 0, .float .f64 0, .float .f64 0, .float .f64 0, .int .u8 0, .bool false] 109)) 107 #[.float .f64 0, .float .f64 0, .float .f64 0, .float .f64 0, .int .u8 0]
  rw [World.size_alloc] at c1
  have g1 : W.grownBy ((W.alloc (.cells #[.float .f64 0, .float .f64 0, .float .f64 0, .float .f64 0, .int .u8 0, .bool false] 109)).alloc (.cells #[.float .f64 0, .float .f64 0, .float .f64 0, .float .f64 0, .int .u8 0] 107)) (some p) := only_alloc (only_alloc (World.grownBy.refl W _) _) _
  have H0 := Hd hw1
  have R0 := Hd r1
  have C0 := Hd c1
  have G0 := Hd g1
  clear h hw0 hw1 r1 c1 g1 hb
  go_enter Tryz.func179, Tryz.ntmps179
  go_wp2_with fail
  generalize ((W.alloc (.cells #[.float .f64 0, .float .f64 0, .float .f64 0, .float .f64 0, .int .u8 0, .bool false] 109)).alloc (.cells #[.float .f64 0, .float .f64 0, .float .f64 0, .float .f64 0, .int .u8 0] 107)) = w0 at *
  have HC0 := Hd (HF.out _ x _ HBN.out.1 H0.out)
  refine HC0.out.mono ?_
  rintro e u0a ⟨rfl, h0, g0⟩
  have rr := R0.out.grown g0 (by intro e; injection e with e; omega)
  have cc := C0.out.grown g0 (by intro e; injection e with e; omega)
  have zf := cc.frozen 0
  have zc := cc.cell 0
  simp at zc
  have RR := Hd rr
  have CC := Hd cc
  have HH := Hd h0
  have GG := Hd (G0.out.trans g0)
  clear h0 g0 rr cc HC0 H0 R0 C0 G0
  go_wp2_with fail
  have h1' := HH.out.under (Bd := W.heap.size + 1) (below_setCell' (Below.refl _ _) (p := ⟨W.heap.size + 1, 0, none⟩) (Nat.le_refl _) (.float .f64 x)) (by omega)
  have r1' := RR.out.far (p := ⟨W.heap.size + 1, 0, none⟩) (by show W.heap.size ≠ W.heap.size + 1; omega) (.float .f64 x)
  have c1' : Blk (u0a.setCell ⟨W.heap.size + 1, 0, none⟩ (.float .f64 x)) (W.heap.size + 1) 107 #[.float .f64 x, .float .f64 0, .float .f64 0, .float .f64 0, .int .u8 0] := by simpa using CC.out.set_ 0 (.float .f64 x)
  have g1' := grown_under GG.out (below_setCell' (Below.refl (W.heap.size + 1) u0a) (p := ⟨W.heap.size + 1, 0, none⟩) (Nat.le_refl _) (.float .f64 x)) (by omega)
  generalize u0a.setCell ⟨W.heap.size + 1, 0, none⟩ (.float .f64 x) = w1 at *
  have H1 := Hd h1'
  have R1 := Hd r1'
  have C1 := Hd c1'
  have G1 := Hd g1'
  clear h1' r1' c1' g1' zf zc RR CC HH GG
  have HC1 := Hd (HF.out _ y _ HBN.out.2 H1.out)
  refine HC1.out.mono ?_
  rintro e u1a ⟨rfl, h1, g1⟩
  have rr := R1.out.grown g1 (by intro e; injection e with e; omega)
  have cc := C1.out.grown g1 (by intro e; injection e with e; omega)
  have zf := cc.frozen 1
  have zc := cc.cell 1
  simp at zc
  have RR := Hd rr
  have CC := Hd cc
  have HH := Hd h1
  have GG := Hd (G1.out.trans g1)
  clear h1 g1 rr cc HC1 H1 R1 C1 G1
  go_upto_region 17 with fail
  have h2' := HH.out.under (Bd := W.heap.size + 1) (below_setCell' (Below.refl _ _) (p := ⟨W.heap.size + 1, 1, none⟩) (Nat.le_refl _) (.float .f64 y)) (by omega)
  have r2' := RR.out.far (p := ⟨W.heap.size + 1, 1, none⟩) (by show W.heap.size ≠ W.heap.size + 1; omega) (.float .f64 y)
  have c2' : Blk (u1a.setCell ⟨W.heap.size + 1, 1, none⟩ (.float .f64 y)) (W.heap.size + 1) 107 #[.float .f64 x, .float .f64 y, .float .f64 0, .float .f64 0, .int .u8 0] := by simpa using CC.out.set_ 1 (.float .f64 y)
  have g2' := grown_under GG.out (below_setCell' (Below.refl (W.heap.size + 1) u1a) (p := ⟨W.heap.size + 1, 1, none⟩) (Nat.le_refl _) (.float .f64 y)) (by omega)
  generalize u1a.setCell ⟨W.heap.size + 1, 1, none⟩ (.float .f64 y) = w2 at *
  have H2 := Hd h2'
  have R2 := Hd r2'
  have C2 := Hd c2'
  have G2 := Hd g2'
  clear h2' r2' c2' g2' zf zc RR CC HH GG
  have n0 := C2.out.cell 0
  have n1 := C2.out.cell 1
  have n2 := C2.out.cell 2
  have n3 := C2.out.cell 3
  have n4 := C2.out.cell 4
  simp at n0 n1 n2 n3 n4
  go_wp2_with (go_at_call 41; refine (isNaN_b _ _).mono ?_; rintro e w9 ⟨rfl, rfl⟩; (first | rw [h1] | rw [h2]))
  refine (NewPoint_any x y 0 0 0 _).mono ?_
  rintro e v9 ⟨rfl, b9⟩
  have r9 := (R2.out).below b9 R2.out.lt
  obtain ⟨c0, c1, c2, c3, c4, c5⟩ := six_cells r9 (.float .f64 x) (.float .f64 y) (.float .f64 0) (.float .f64 0) (.int .u8 0) (.bool true)
  have HW9 := Hd (H2.out.keep b9)
  have G9 := Hd (G2.out.trans (only_of_below b9 _))
  have z0 := r9.frozen 0
  have z1 := r9.frozen 1
  have z2 := r9.frozen 2
  have z3 := r9.frozen 3
  have z4 := r9.frozen 4
  have z5 := r9.frozen 5
  have y0 := r9.cell 0
  have y1 := r9.cell 1
  have y2 := r9.cell 2
  have y3 := r9.cell 3
  have y4 := r9.cell 4
  have y5 := r9.cell 5
  simp at y0 y1 y2 y3 y4 y5
  clear r9 b9 n0 n1 n2 n3 n4
  go_wp2
  refine bodyPost_ret (by simp [results, Tryz.results179, go_sem, c0, c1, c2, c3, c4, c5]; try rfl) rfl ?_
  refine ⟨rfl, HW9.out.under (Bd := W.heap.size) ?_ hlr, grown_under G9.out ?_ (Nat.le_refl _)⟩
  all_goals exact below_setCell' (below_setCell' (below_setCell' (below_setCell' (below_setCell' (below_setCell' (Below.refl W.heap.size v9) (p := ⟨W.heap.size, 0, none⟩) (Nat.le_refl _) _) (p := ⟨W.heap.size, 1, none⟩) (Nat.le_refl _) _) (p := ⟨W.heap.size, 2, none⟩) (Nat.le_refl _) _) (p := ⟨W.heap.size, 3, none⟩) (Nat.le_refl _) _) (p := ⟨W.heap.size, 4, none⟩) (Nat.le_refl _) _) (p := ⟨W.heap.size, 5, none⟩) (Nat.le_refl _) _

set_option maxRecDepth 100000 in
theorem parsePoint_0e {W : World} {B p : Nat} {no : Bool} (big : Bool) {x y : Nat} {bs : List Int} (hb : x < 18446744073709551616 ∧ y < 18446744073709551616) (h1 : feq x x = false) (h2 : feq y y = false) (h : Wp W B p (if big then 0 else 1) no (uB big 8 x ++ (uB big 8 y ++ bs))) :
    Calls Tryz.prog 179 #[.pointer (some ⟨p, 0, none⟩), .int .u8 0] W fun e w' => e = .returned (.tuple #[.agg #[.float .f64 0, .float .f64 0, .float .f64 0, .float .f64 0, .int .u8 0, .bool false], .nilIface]) ∧ Wp w' B p (if big then 0 else 1) no bs ∧ W.grownBy w' (some p) := by
  have HF : Hid (∀ (w : World) (v : Nat) (r : List Int), v < 18446744073709551616 → Wp w B p (if big then 0 else 1) no (uB big 8 v ++ r) → Calls Tryz.prog 212 #[.pointer (some ⟨p, 0, none⟩)] w fun e w' => e = .returned (.tuple #[.float .f64 v, .nilIface]) ∧ Wp w' B p (if big then 0 else 1) no r ∧ w.grownBy w' (some p)) := Hd (fun w v r hv hw => parseFloat64_any big v hv hw)
  generalize (if big = true then (0 : Int) else 1) = bo at *
  have hlr := h.lt
  have HBN := Hd hb
  have hw0 := h.keep ((Below.refl W.heap.size W).alloc (Nat.le_refl _) (.cells #[.float .f64 0, .float .f64 0, .float .f64 0, .float .f64 0, .int .u8 0, .bool false] 109))
  have hw1 := hw0.keep ((Below.refl _ _).alloc (Nat.le_refl _) (.cells #[.float .f64 0, .float .f64 0, .float .f64 0, .float .f64 0, .int .u8 0] 107))
  have r1 := (Blk.new W 109 #[.float .f64 0, .float .f64 0, .float .f64 0, .float .f64 0, .int .u8 0, .bool false]).alloc (.cells #[.float .f64 0, .float .f64 0, .float .f64 0, .float .f64 0, .int .u8 0] 107)
  have c1 := Blk.new (W.alloc (.cells #[.float .f64 0, .float .f64 0, .float .f64 0, .float .f64 0, .int .u8 0, .bool false] 109)) 107 #[.float .f64 0, .float .f64 0, .float .f64 0, .float .f64 0, .int .u8 0]
  rw [World.size_alloc] at c1
  have g1 : W.grownBy ((W.alloc (.cells #[.float .f64 0, .float .f64 0, .float .f64 0, .float .f64 0, .int .u8 0, .bool false] 109)).alloc (.cells #[.float .f64 0, .float .f64 0, .float .f64 0, .float .f64 0, .int .u8 0] 107)) (some p) := only_alloc (only_alloc (World.grownBy.refl W _) _) _
  have H0 := Hd hw1
  have R0 := Hd r1
  have C0 := Hd c1
  have G0 := Hd g1
  clear h hw0 hw1 r1 c1 g1 hb
  go_enter Tryz.func179, Tryz.ntmps179
  go_wp2_with fail
  generalize ((W.alloc (.cells #[.float .f64 0, .float .f64 0, .float .f64 0, .float .f64 0, .int .u8 0, .bool false] 109)).alloc (.cells #[.float .f64 0, .float .f64 0, .float .f64 0, .float .f64 0, .int .u8 0] 107)) = w0 at *
  have HC0 := Hd (HF.out _ x _ HBN.out.1 H0.out)
  refine HC0.out.mono ?_
  rintro e u0a ⟨rfl, h0, g0⟩
  have rr := R0.out.grown g0 (by intro e; injection e with e; omega)
  have cc := C0.out.grown g0 (by intro e; injection e with e; omega)
  have zf := cc.frozen 0
  have zc := cc.cell 0
  simp at zc
  have RR := Hd rr
  have CC := Hd cc
  have HH := Hd h0
  have GG := Hd (G0.out.trans g0)
  clear h0 g0 rr cc HC0 H0 R0 C0 G0
  go_wp2_with fail
  have h1' := HH.out.under (Bd := W.heap.size + 1) (below_setCell' (Below.refl _ _) (p := ⟨W.heap.size + 1, 0, none⟩) (Nat.le_refl _) (.float .f64 x)) (by omega)
  have r1' := RR.out.far (p := ⟨W.heap.size + 1, 0, none⟩) (by show W.heap.size ≠ W.heap.size + 1; omega) (.float .f64 x)
  have c1' : Blk (u0a.setCell ⟨W.heap.size + 1, 0, none⟩ (.float .f64 x)) (W.heap.size + 1) 107 #[.float .f64 x, .float .f64 0, .float .f64 0, .float .f64 0, .int .u8 0] := by simpa using CC.out.set_ 0 (.float .f64 x)
  have g1' := grown_under GG.out (below_setCell' (Below.refl (W.heap.size + 1) u0a) (p := ⟨W.heap.size + 1, 0, none⟩) (Nat.le_refl _) (.float .f64 x)) (by omega)
  generalize u0a.setCell ⟨W.heap.size + 1, 0, none⟩ (.float .f64 x) = w1 at *
  have H1 := Hd h1'
  have R1 := Hd r1'
  have C1 := Hd c1'
  have G1 := Hd g1'
  clear h1' r1' c1' g1' zf zc RR CC HH GG
  have HC1 := Hd (HF.out _ y _ HBN.out.2 H1.out)
  refine HC1.out.mono ?_
  rintro e u1a ⟨rfl, h1, g1⟩
  have rr := R1.out.grown g1 (by intro e; injection e with e; omega)
  have cc := C1.out.grown g1 (by intro e; injection e with e; omega)
  have zf := cc.frozen 1
  have zc := cc.cell 1
  simp at zc
  have RR := Hd rr
  have CC := Hd cc
  have HH := Hd h1
  have GG := Hd (G1.out.trans g1)
  clear h1 g1 rr cc HC1 H1 R1 C1 G1
  go_upto_region 17 with fail
  have h2' := HH.out.under (Bd := W.heap.size + 1) (below_setCell' (Below.refl _ _) (p := ⟨W.heap.size + 1, 1, none⟩) (Nat.le_refl _) (.float .f64 y)) (by omega)
  have r2' := RR.out.far (p := ⟨W.heap.size + 1, 1, none⟩) (by show W.heap.size ≠ W.heap.size + 1; omega) (.float .f64 y)
  have c2' : Blk (u1a.setCell ⟨W.heap.size + 1, 1, none⟩ (.float .f64 y)) (W.heap.size + 1) 107 #[.float .f64 x, .float .f64 y, .float .f64 0, .float .f64 0, .int .u8 0] := by simpa using CC.out.set_ 1 (.float .f64 y)
  have g2' := grown_under GG.out (below_setCell' (Below.refl (W.heap.size + 1) u1a) (p := ⟨W.heap.size + 1, 1, none⟩) (Nat.le_refl _) (.float .f64 y)) (by omega)
  generalize u1a.setCell ⟨W.heap.size + 1, 1, none⟩ (.float .f64 y) = w2 at *
  have H2 := Hd h2'
  have R2 := Hd r2'
  have C2 := Hd c2'
  have G2 := Hd g2'
  clear h2' r2' c2' g2' zf zc RR CC HH GG
  have n0 := C2.out.cell 0
  have n1 := C2.out.cell 1
  have n2 := C2.out.cell 2
  have n3 := C2.out.cell 3
  have n4 := C2.out.cell 4
  simp at n0 n1 n2 n3 n4
  go_wp2_with (go_at_call 41; refine (isNaN_b _ _).mono ?_; rintro e w9 ⟨rfl, rfl⟩; (first | rw [h1] | rw [h2]))
  refine (PtForce_none 0 0 0 0 0 0 _).mono ?_
  rintro e v9 ⟨rfl, b9⟩
  have r9 := (R2.out).below b9 R2.out.lt
  obtain ⟨c0, c1, c2, c3, c4, c5⟩ := six_cells r9 (.float .f64 0) (.float .f64 0) (.float .f64 0) (.float .f64 0) (.int .u8 0) (.bool false)
  have HW9 := Hd (H2.out.keep b9)
  have G9 := Hd (G2.out.trans (only_of_below b9 _))
  have z0 := r9.frozen 0
  have z1 := r9.frozen 1
  have z2 := r9.frozen 2
  have z3 := r9.frozen 3
  have z4 := r9.frozen 4
  have z5 := r9.frozen 5
  have y0 := r9.cell 0
  have y1 := r9.cell 1
  have y2 := r9.cell 2
  have y3 := r9.cell 3
  have y4 := r9.cell 4
  have y5 := r9.cell 5
  simp at y0 y1 y2 y3 y4 y5
  clear r9 b9 n0 n1 n2 n3 n4
  go_wp2
  refine bodyPost_ret (by simp [results, Tryz.results179, go_sem, c0, c1, c2, c3, c4, c5]; try rfl) rfl ?_
  refine ⟨rfl, HW9.out.under (Bd := W.heap.size) ?_ hlr, grown_under G9.out ?_ (Nat.le_refl _)⟩
  all_goals exact below_setCell' (below_setCell' (below_setCell' (below_setCell' (below_setCell' (below_setCell' (Below.refl W.heap.size v9) (p := ⟨W.heap.size, 0, none⟩) (Nat.le_refl _) _) (p := ⟨W.heap.size, 1, none⟩) (Nat.le_refl _) _) (p := ⟨W.heap.size, 2, none⟩) (Nat.le_refl _) _) (p := ⟨W.heap.size, 3, none⟩) (Nat.le_refl _) _) (p := ⟨W.heap.size, 4, none⟩) (Nat.le_refl _) _) (p := ⟨W.heap.size, 5, none⟩) (Nat.le_refl _) _

set_option maxRecDepth 100000 in
theorem parsePoint_1f {W : World} {B p : Nat} {no : Bool} (big : Bool) {x y z : Nat} {bs : List Int} (hb : x < 18446744073709551616 ∧ y < 18446744073709551616 ∧ z < 18446744073709551616) (h1 : feq x x = true) (h2 : feq y y = true) (h : Wp W B p (if big then 0 else 1) no (uB big 8 x ++ (uB big 8 y ++ (uB big 8 z ++ bs)))) :
    Calls Tryz.prog 179 #[.pointer (some ⟨p, 0, none⟩), .int .u8 1] W fun e w' => e = .returned (.tuple #[.agg #[.float .f64 x, .float .f64 y, .float .f64 z, .float .f64 0, .int .u8 1, .bool true], .nilIface]) ∧ Wp w' B p (if big then 0 else 1) no bs ∧ W.grownBy w' (some p) := by
  have HF : Hid (∀ (w : World) (v : Nat) (r : List Int), v < 18446744073709551616 → Wp w B p (if big then 0 else 1) no (uB big 8 v ++ r) → Calls Tryz.prog 212 #[.pointer (some ⟨p, 0, none⟩)] w fun e w' => e = .returned (.tuple #[.float .f64 v, .nilIface]) ∧ Wp w' B p (if big then 0 else 1) no r ∧ w.grownBy w' (some p)) := Hd (fun w v r hv hw => parseFloat64_any big v hv hw)
  generalize (if big = true then (0 : Int) else 1) = bo at *
  have hlr := h.lt
  have HBN := Hd hb
  have hw0 := h.keep ((Below.refl W.heap.size W).alloc (Nat.le_refl _) (.cells #[.float .f64 0, .float .f64 0, .float .f64 0, .float .f64 0, .int .u8 0, .bool false] 109))
  have hw1 := hw0.keep ((Below.refl _ _).alloc (Nat.le_refl _) (.cells #[.float .f64 0, .float .f64 0, .float .f64 0, .float .f64 0, .int .u8 1] 107))
  have r1 := (Blk.new W 109 #[.float .f64 0, .float .f64 0, .float .f64 0, .float .f64 0, .int .u8 0, .bool false]).alloc (.cells #[.float .f64 0, .float .f64 0, .float .f64 0, .float .f64 0, .int .u8 1] 107)
  have c1 := Blk.new (W.alloc (.cells #[.float .f64 0, .float .f64 0, .float .f64 0, .float .f64 0, .int .u8 0, .bool false] 109)) 107 #[.float .f64 0, .float .f64 0, .float .f64 0, .float .f64 0, .int .u8 1]
  rw [World.size_alloc] at c1
  have g1 : W.grownBy ((W.alloc (.cells #[.float .f64 0, .float .f64 0, .float .f64 0, .float .f64 0, .int .u8 0, .bool false] 109)).alloc (.cells #[.float .f64 0, .float .f64 0, .float .f64 0, .float .f64 0, .int .u8 1] 107)) (some p) := only_alloc (only_alloc (World.grownBy.refl W _) _) _
  have H0 := Hd hw1
  have R0 := Hd r1
  have C0 := Hd c1
  have G0 := Hd g1
  clear h hw0 hw1 r1 c1 g1 hb
  go_enter Tryz.func179, Tryz.ntmps179
  go_wp2_with fail
  generalize ((W.alloc (.cells #[.float .f64 0, .float .f64 0, .float .f64 0, .float .f64 0, .int .u8 0, .bool false] 109)).alloc (.cells #[.float .f64 0, .float .f64 0, .float .f64 0, .float .f64 0, .int .u8 1] 107)) = w0 at *
  have HC0 := Hd (HF.out _ x _ HBN.out.1 H0.out)
  refine HC0.out.mono ?_
  rintro e u0a ⟨rfl, h0, g0⟩
  have rr := R0.out.grown g0 (by intro e; injection e with e; omega)
  have cc := C0.out.grown g0 (by intro e; injection e with e; omega)
  have zf := cc.frozen 0
  have zc := cc.cell 0
  simp at zc
  have RR := Hd rr
  have CC := Hd cc
  have HH := Hd h0
  have GG := Hd (G0.out.trans g0)
  clear h0 g0 rr cc HC0 H0 R0 C0 G0
  go_wp2_with fail
  have h1' := HH.out.under (Bd := W.heap.size + 1) (below_setCell' (Below.refl _ _) (p := ⟨W.heap.size + 1, 0, none⟩) (Nat.le_refl _) (.float .f64 x)) (by omega)
  have r1' := RR.out.far (p := ⟨W.heap.size + 1, 0, none⟩) (by show W.heap.size ≠ W.heap.size + 1; omega) (.float .f64 x)
  have c1' : Blk (u0a.setCell ⟨W.heap.size + 1, 0, none⟩ (.float .f64 x)) (W.heap.size + 1) 107 #[.float .f64 x, .float .f64 0, .float .f64 0, .float .f64 0, .int .u8 1] := by simpa using CC.out.set_ 0 (.float .f64 x)
  have g1' := grown_under GG.out (below_setCell' (Below.refl (W.heap.size + 1) u0a) (p := ⟨W.heap.size + 1, 0, none⟩) (Nat.le_refl _) (.float .f64 x)) (by omega)
  generalize u0a.setCell ⟨W.heap.size + 1, 0, none⟩ (.float .f64 x) = w1 at *
  have H1 := Hd h1'
  have R1 := Hd r1'
  have C1 := Hd c1'
  have G1 := Hd g1'
  clear h1' r1' c1' g1' zf zc RR CC HH GG
  have HC1 := Hd (HF.out _ y _ HBN.out.2.1 H1.out)
  refine HC1.out.mono ?_
  rintro e u1a ⟨rfl, h1, g1⟩
  have rr := R1.out.grown g1 (by intro e; injection e with e; omega)
  have cc := C1.out.grown g1 (by intro e; injection e with e; omega)
  have zf := cc.frozen 1
  have zc := cc.cell 1
  simp at zc
  have RR := Hd rr
  have CC := Hd cc
  have HH := Hd h1
  have GG := Hd (G1.out.trans g1)
  clear h1 g1 rr cc HC1 H1 R1 C1 G1
  go_wp2_with fail
  have h2' := HH.out.under (Bd := W.heap.size + 1) (below_setCell' (Below.refl _ _) (p := ⟨W.heap.size + 1, 1, none⟩) (Nat.le_refl _) (.float .f64 y)) (by omega)
  have r2' := RR.out.far (p := ⟨W.heap.size + 1, 1, none⟩) (by show W.heap.size ≠ W.heap.size + 1; omega) (.float .f64 y)
  have c2' : Blk (u1a.setCell ⟨W.heap.size + 1, 1, none⟩ (.float .f64 y)) (W.heap.size + 1) 107 #[.float .f64 x, .float .f64 y, .float .f64 0, .float .f64 0, .int .u8 1] := by simpa using CC.out.set_ 1 (.float .f64 y)
  have g2' := grown_under GG.out (below_setCell' (Below.refl (W.heap.size + 1) u1a) (p := ⟨W.heap.size + 1, 1, none⟩) (Nat.le_refl _) (.float .f64 y)) (by omega)
  generalize u1a.setCell ⟨W.heap.size + 1, 1, none⟩ (.float .f64 y) = w2 at *
  have H2 := Hd h2'
  have R2 := Hd r2'
  have C2 := Hd c2'
  have G2 := Hd g2'
  clear h2' r2' c2' g2' zf zc RR CC HH GG
  have HC2 := Hd (HF.out _ z _ HBN.out.2.2 H2.out)
  refine HC2.out.mono ?_
  rintro e u2a ⟨rfl, h2, g2⟩
  have rr := R2.out.grown g2 (by intro e; injection e with e; omega)
  have cc := C2.out.grown g2 (by intro e; injection e with e; omega)
  have zf := cc.frozen 2
  have zc := cc.cell 2
  simp at zc
  have RR := Hd rr
  have CC := Hd cc
  have HH := Hd h2
  have GG := Hd (G2.out.trans g2)
  clear h2 g2 rr cc HC2 H2 R2 C2 G2
  go_upto_region 17 with fail
  have h3' := HH.out.under (Bd := W.heap.size + 1) (below_setCell' (Below.refl _ _) (p := ⟨W.heap.size + 1, 2, none⟩) (Nat.le_refl _) (.float .f64 z)) (by omega)
  have r3' := RR.out.far (p := ⟨W.heap.size + 1, 2, none⟩) (by show W.heap.size ≠ W.heap.size + 1; omega) (.float .f64 z)
  have c3' : Blk (u2a.setCell ⟨W.heap.size + 1, 2, none⟩ (.float .f64 z)) (W.heap.size + 1) 107 #[.float .f64 x, .float .f64 y, .float .f64 z, .float .f64 0, .int .u8 1] := by simpa using CC.out.set_ 2 (.float .f64 z)
  have g3' := grown_under GG.out (below_setCell' (Below.refl (W.heap.size + 1) u2a) (p := ⟨W.heap.size + 1, 2, none⟩) (Nat.le_refl _) (.float .f64 z)) (by omega)
  generalize u2a.setCell ⟨W.heap.size + 1, 2, none⟩ (.float .f64 z) = w3 at *
  have H3 := Hd h3'
  have R3 := Hd r3'
  have C3 := Hd c3'
  have G3 := Hd g3'
  clear h3' r3' c3' g3' zf zc RR CC HH GG
  have n0 := C3.out.cell 0
  have n1 := C3.out.cell 1
  have n2 := C3.out.cell 2
  have n3 := C3.out.cell 3
  have n4 := C3.out.cell 4
  simp at n0 n1 n2 n3 n4
  go_wp2_with (go_at_call 41; refine (isNaN_b _ _).mono ?_; rintro e w9 ⟨rfl, rfl⟩; (first | rw [h1] | rw [h2]))
  refine (NewPoint_any x y z 0 1 _).mono ?_
  rintro e v9 ⟨rfl, b9⟩
  have r9 := (R3.out).below b9 R3.out.lt
  obtain ⟨c0, c1, c2, c3, c4, c5⟩ := six_cells r9 (.float .f64 x) (.float .f64 y) (.float .f64 z) (.float .f64 0) (.int .u8 1) (.bool true)
  have HW9 := Hd (H3.out.keep b9)
  have G9 := Hd (G3.out.trans (only_of_below b9 _))
  have z0 := r9.frozen 0
  have z1 := r9.frozen 1
  have z2 := r9.frozen 2
  have z3 := r9.frozen 3
  have z4 := r9.frozen 4
  have z5 := r9.frozen 5
  have y0 := r9.cell 0
  have y1 := r9.cell 1
  have y2 := r9.cell 2
  have y3 := r9.cell 3
  have y4 := r9.cell 4
  have y5 := r9.cell 5
  simp at y0 y1 y2 y3 y4 y5
  clear r9 b9 n0 n1 n2 n3 n4
  go_wp2
  refine bodyPost_ret (by simp [results, Tryz.results179, go_sem, c0, c1, c2, c3, c4, c5]; try rfl) rfl ?_
  refine ⟨rfl, HW9.out.under (Bd := W.heap.size) ?_ hlr, grown_under G9.out ?_ (Nat.le_refl _)⟩
  all_goals exact below_setCell' (below_setCell' (below_setCell' (below_setCell' (below_setCell' (below_setCell' (Below.refl W.heap.size v9) (p := ⟨W.heap.size, 0, none⟩) (Nat.le_refl _) _) (p := ⟨W.heap.size, 1, none⟩) (Nat.le_refl _) _) (p := ⟨W.heap.size, 2, none⟩) (Nat.le_refl _) _) (p := ⟨W.heap.size, 3, none⟩) (Nat.le_refl _) _) (p := ⟨W.heap.size, 4, none⟩) (Nat.le_refl _) _) (p := ⟨W.heap.size, 5, none⟩) (Nat.le_refl _) _

set_option maxRecDepth 100000 in
theorem parsePoint_1e {W : World} {B p : Nat} {no : Bool} (big : Bool) {x y z : Nat} {bs : List Int} (hb : x < 18446744073709551616 ∧ y < 18446744073709551616 ∧ z < 18446744073709551616) (h1 : feq x x = false) (h2 : feq y y = false) (h : Wp W B p (if big then 0 else 1) no (uB big 8 x ++ (uB big 8 y ++ (uB big 8 z ++ bs)))) :
    Calls Tryz.prog 179 #[.pointer (some ⟨p, 0, none⟩), .int .u8 1] W fun e w' => e = .returned (.tuple #[.agg #[.float .f64 0, .float .f64 0, .float .f64 0, .float .f64 0, .int .u8 1, .bool false], .nilIface]) ∧ Wp w' B p (if big then 0 else 1) no bs ∧ W.grownBy w' (some p) := by
  have HF : Hid (∀ (w : World) (v : Nat) (r : List Int), v < 18446744073709551616 → Wp w B p (if big then 0 else 1) no (uB big 8 v ++ r) → Calls Tryz.prog 212 #[.pointer (some ⟨p, 0, none⟩)] w fun e w' => e = .returned (.tuple #[.float .f64 v, .nilIface]) ∧ Wp w' B p (if big then 0 else 1) no r ∧ w.grownBy w' (some p)) := Hd (fun w v r hv hw => parseFloat64_any big v hv hw)
  generalize (if big = true then (0 : Int) else 1) = bo at *
  have hlr := h.lt
  have HBN := Hd hb
  have hw0 := h.keep ((Below.refl W.heap.size W).alloc (Nat.le_refl _) (.cells #[.float .f64 0, .float .f64 0, .float .f64 0, .float .f64 0, .int .u8 0, .bool false] 109))
  have hw1 := hw0.keep ((Below.refl _ _).alloc (Nat.le_refl _) (.cells #[.float .f64 0, .float .f64 0, .float .f64 0, .float .f64 0, .int .u8 1] 107))
  have r1 := (Blk.new W 109 #[.float .f64 0, .float .f64 0, .float .f64 0, .float .f64 0, .int .u8 0, .bool false]).alloc (.cells #[.float .f64 0, .float .f64 0, .float .f64 0, .float .f64 0, .int .u8 1] 107)
  have c1 := Blk.new (W.alloc (.cells #[.float .f64 0, .float .f64 0, .float .f64 0, .float .f64 0, .int .u8 0, .bool false] 109)) 107 #[.float .f64 0, .float .f64 0, .float .f64 0, .float .f64 0, .int .u8 1]
  rw [World.size_alloc] at c1
  have g1 : W.grownBy ((W.alloc (.cells #[.float .f64 0, .float .f64 0, .float .f64 0, .float .f64 0, .int .u8 0, .bool false] 109)).alloc (.cells #[.float .f64 0, .float .f64 0, .float .f64 0, .float .f64 0, .int .u8 1] 107)) (some p) := only_alloc (only_alloc (World.grownBy.refl W _) _) _
  have H0 := Hd hw1
  have R0 := Hd r1
  have C0 := Hd c1
  have G0 := Hd g1
  clear h hw0 hw1 r1 c1 g1 hb
  go_enter Tryz.func179, Tryz.ntmps179
  go_wp2_with fail
  generalize ((W.alloc (.cells #[.float .f64 0, .float .f64 0, .float .f64 0, .float .f64 0, .int .u8 0, .bool false] 109)).alloc (.cells #[.float .f64 0, .float .f64 0, .float .f64 0, .float .f64 0, .int .u8 1] 107)) = w0 at *
  have HC0 := Hd (HF.out _ x _ HBN.out.1 H0.out)
  refine HC0.out.mono ?_
  rintro e u0a ⟨rfl, h0, g0⟩
  have rr := R0.out.grown g0 (by intro e; injection e with e; omega)
  have cc := C0.out.grown g0 (by intro e; injection e with e; omega)
  have zf := cc.frozen 0
  have zc := cc.cell 0
  simp at zc
  have RR := Hd rr
  have CC := Hd cc
  have HH := Hd h0
  have GG := Hd (G0.out.trans g0)
  clear h0 g0 rr cc HC0 H0 R0 C0 G0
  go_wp2_with fail
  have h1' := HH.out.under (Bd := W.heap.size + 1) (below_setCell' (Below.refl _ _) (p := ⟨W.heap.size + 1, 0, none⟩) (Nat.le_refl _) (.float .f64 x)) (by omega)
  have r1' := RR.out.far (p := ⟨W.heap.size + 1, 0, none⟩) (by show W.heap.size ≠ W.heap.size + 1; omega) (.float .f64 x)
  have c1' : Blk (u0a.setCell ⟨W.heap.size + 1, 0, none⟩ (.float .f64 x)) (W.heap.size + 1) 107 #[.float .f64 x, .float .f64 0, .float .f64 0, .float .f64 0, .int .u8 1] := by simpa using CC.out.set_ 0 (.float .f64 x)
  have g1' := grown_under GG.out (below_setCell' (Below.refl (W.heap.size + 1) u0a) (p := ⟨W.heap.size + 1, 0, none⟩) (Nat.le_refl _) (.float .f64 x)) (by omega)
  generalize u0a.setCell ⟨W.heap.size + 1, 0, none⟩ (.float .f64 x) = w1 at *
  have H1 := Hd h1'
  have R1 := Hd r1'
  have C1 := Hd c1'
  have G1 := Hd g1'
  clear h1' r1' c1' g1' zf zc RR CC HH GG
  have HC1 := Hd (HF.out _ y _ HBN.out.2.1 H1.out)
  refine HC1.out.mono ?_
  rintro e u1a ⟨rfl, h1, g1⟩
  have rr := R1.out.grown g1 (by intro e; injection e with e; omega)
  have cc := C1.out.grown g1 (by intro e; injection e with e; omega)
  have zf := cc.frozen 1
  have zc := cc.cell 1
  simp at zc
  have RR := Hd rr
  have CC := Hd cc
  have HH := Hd h1
  have GG := Hd (G1.out.trans g1)
  clear h1 g1 rr cc HC1 H1 R1 C1 G1
  go_wp2_with fail
  have h2' := HH.out.under (Bd := W.heap.size + 1) (below_setCell' (Below.refl _ _) (p := ⟨W.heap.size + 1, 1, none⟩) (Nat.le_refl _) (.float .f64 y)) (by omega)
  have r2' := RR.out.far (p := ⟨W.heap.size + 1, 1, none⟩) (by show W.heap.size ≠ W.heap.size + 1; omega) (.float .f64 y)
  have c2' : Blk (u1a.setCell ⟨W.heap.size + 1, 1, none⟩ (.float .f64 y)) (W.heap.size + 1) 107 #[.float .f64 x, .float .f64 y, .float .f64 0, .float .f64 0, .int .u8 1] := by simpa using CC.out.set_ 1 (.float .f64 y)
  have g2' := grown_under GG.out (below_setCell' (Below.refl (W.heap.size + 1) u1a) (p := ⟨W.heap.size + 1, 1, none⟩) (Nat.le_refl _) (.float .f64 y)) (by omega)
  generalize u1a.setCell ⟨W.heap.size + 1, 1, none⟩ (.float .f64 y) = w2 at *
  have H2 := Hd h2'
  have R2 := Hd r2'
  have C2 := Hd c2'
  have G2 := Hd g2'
  clear h2' r2' c2' g2' zf zc RR CC HH GG
  have HC2 := Hd (HF.out _ z _ HBN.out.2.2 H2.out)
  refine HC2.out.mono ?_
  rintro e u2a ⟨rfl, h2, g2⟩
  have rr := R2.out.grown g2 (by intro e; injection e with e; omega)
  have cc := C2.out.grown g2 (by intro e; injection e with e; omega)
  have zf := cc.frozen 2
  have zc := cc.cell 2
  simp at zc
  have RR := Hd rr
  have CC := Hd cc
  have HH := Hd h2
  have GG := Hd (G2.out.trans g2)
  clear h2 g2 rr cc HC2 H2 R2 C2 G2
  go_upto_region 17 with fail
  have h3' := HH.out.under (Bd := W.heap.size + 1) (below_setCell' (Below.refl _ _) (p := ⟨W.heap.size + 1, 2, none⟩) (Nat.le_refl _) (.float .f64 z)) (by omega)
  have r3' := RR.out.far (p := ⟨W.heap.size + 1, 2, none⟩) (by show W.heap.size ≠ W.heap.size + 1; omega) (.float .f64 z)
  have c3' : Blk (u2a.setCell ⟨W.heap.size + 1, 2, none⟩ (.float .f64 z)) (W.heap.size + 1) 107 #[.float .f64 x, .float .f64 y, .float .f64 z, .float .f64 0, .int .u8 1] := by simpa using CC.out.set_ 2 (.float .f64 z)
  have g3' := grown_under GG.out (below_setCell' (Below.refl (W.heap.size + 1) u2a) (p := ⟨W.heap.size + 1, 2, none⟩) (Nat.le_refl _) (.float .f64 z)) (by omega)
  generalize u2a.setCell ⟨W.heap.size + 1, 2, none⟩ (.float .f64 z) = w3 at *
  have H3 := Hd h3'
  have R3 := Hd r3'
  have C3 := Hd c3'
  have G3 := Hd g3'
  clear h3' r3' c3' g3' zf zc RR CC HH GG
  have n0 := C3.out.cell 0
  have n1 := C3.out.cell 1
  have n2 := C3.out.cell 2
  have n3 := C3.out.cell 3
  have n4 := C3.out.cell 4
  simp at n0 n1 n2 n3 n4
  go_wp2_with (go_at_call 41; refine (isNaN_b _ _).mono ?_; rintro e w9 ⟨rfl, rfl⟩; (first | rw [h1] | rw [h2]))
  refine (PtForce_none 1 0 0 0 0 0 _).mono ?_
  rintro e v9 ⟨rfl, b9⟩
  have r9 := (R3.out).below b9 R3.out.lt
  obtain ⟨c0, c1, c2, c3, c4, c5⟩ := six_cells r9 (.float .f64 0) (.float .f64 0) (.float .f64 0) (.float .f64 0) (.int .u8 1) (.bool false)
  have HW9 := Hd (H3.out.keep b9)
  have G9 := Hd (G3.out.trans (only_of_below b9 _))
  have z0 := r9.frozen 0
  have z1 := r9.frozen 1
  have z2 := r9.frozen 2
  have z3 := r9.frozen 3
  have z4 := r9.frozen 4
  have z5 := r9.frozen 5
  have y0 := r9.cell 0
  have y1 := r9.cell 1
  have y2 := r9.cell 2
  have y3 := r9.cell 3
  have y4 := r9.cell 4
  have y5 := r9.cell 5
  simp at y0 y1 y2 y3 y4 y5
  clear r9 b9 n0 n1 n2 n3 n4
  go_wp2
  refine bodyPost_ret (by simp [results, Tryz.results179, go_sem, c0, c1, c2, c3, c4, c5]; try rfl) rfl ?_
  refine ⟨rfl, HW9.out.under (Bd := W.heap.size) ?_ hlr, grown_under G9.out ?_ (Nat.le_refl _)⟩
  all_goals exact below_setCell' (below_setCell' (below_setCell' (below_setCell' (below_setCell' (below_setCell' (Below.refl W.heap.size v9) (p := ⟨W.heap.size, 0, none⟩) (Nat.le_refl _) _) (p := ⟨W.heap.size, 1, none⟩) (Nat.le_refl _) _) (p := ⟨W.heap.size, 2, none⟩) (Nat.le_refl _) _) (p := ⟨W.heap.size, 3, none⟩) (Nat.le_refl _) _) (p := ⟨W.heap.size, 4, none⟩) (Nat.le_refl _) _) (p := ⟨W.heap.size, 5, none⟩) (Nat.le_refl _) _

set_option maxRecDepth 100000 in
theorem parsePoint_2f {W : World} {B p : Nat} {no : Bool} (big : Bool) {x y m : Nat} {bs : List Int} (hb : x < 18446744073709551616 ∧ y < 18446744073709551616 ∧ m < 18446744073709551616) (h1 : feq x x = true) (h2 : feq y y = true) (h : Wp W B p (if big then 0 else 1) no (uB big 8 x ++ (uB big 8 y ++ (uB big 8 m ++ bs)))) :
    Calls Tryz.prog 179 #[.pointer (some ⟨p, 0, none⟩), .int .u8 2] W fun e w' => e = .returned (.tuple #[.agg #[.float .f64 x, .float .f64 y, .float .f64 0, .float .f64 m, .int .u8 2, .bool true], .nilIface]) ∧ Wp w' B p (if big then 0 else 1) no bs ∧ W.grownBy w' (some p) := by
  have HF : Hid (∀ (w : World) (v : Nat) (r : List Int), v < 18446744073709551616 → Wp w B p (if big then 0 else 1) no (uB big 8 v ++ r) → Calls Tryz.prog 212 #[.pointer (some ⟨p, 0, none⟩)] w fun e w' => e = .returned (.tuple #[.float .f64 v, .nilIface]) ∧ Wp w' B p (if big then 0 else 1) no r ∧ w.grownBy w' (some p)) := Hd (fun w v r hv hw => parseFloat64_any big v hv hw)
  generalize (if big = true then (0 : Int) else 1) = bo at *
  have hlr := h.lt
  have HBN := Hd hb
  have hw0 := h.keep ((Below.refl W.heap.size W).alloc (Nat.le_refl _) (.cells #[.float .f64 0, .float .f64 0, .float .f64 0, .float .f64 0, .int .u8 0, .bool false] 109))
  have hw1 := hw0.keep ((Below.refl _ _).alloc (Nat.le_refl _) (.cells #[.float .f64 0, .float .f64 0, .float .f64 0, .float .f64 0, .int .u8 2] 107))
  have r1 := (Blk.new W 109 #[.float .f64 0, .float .f64 0, .float .f64 0, .float .f64 0, .int .u8 0, .bool false]).alloc (.cells #[.float .f64 0, .float .f64 0, .float .f64 0, .float .f64 0, .int .u8 2] 107)
  have c1 := Blk.new (W.alloc (.cells #[.float .f64 0, .float .f64 0, .float .f64 0, .float .f64 0, .int .u8 0, .bool false] 109)) 107 #[.float .f64 0, .float .f64 0, .float .f64 0, .float .f64 0, .int .u8 2]
  rw [World.size_alloc] at c1
  have g1 : W.grownBy ((W.alloc (.cells #[.float .f64 0, .float .f64 0, .float .f64 0, .float .f64 0, .int .u8 0, .bool false] 109)).alloc (.cells #[.float .f64 0, .float .f64 0, .float .f64 0, .float .f64 0, .int .u8 2] 107)) (some p) := only_alloc (only_alloc (World.grownBy.refl W _) _) _
  have H0 := Hd hw1
  have R0 := Hd r1
  have C0 := Hd c1
  have G0 := Hd g1
  clear h hw0 hw1 r1 c1 g1 hb
  go_enter Tryz.func179, Tryz.ntmps179
  go_wp2_with fail
  generalize ((W.alloc (.cells #[.float .f64 0, .float .f64 0, .float .f64 0, .float .f64 0, .int .u8 0, .bool false] 109)).alloc (.cells #[.float .f64 0, .float .f64 0, .float .f64 0, .float .f64 0, .int .u8 2] 107)) = w0 at *
  have HC0 := Hd (HF.out _ x _ HBN.out.1 H0.out)
  refine HC0.out.mono ?_
  rintro e u0a ⟨rfl, h0, g0⟩
  have rr := R0.out.grown g0 (by intro e; injection e with e; omega)
  have cc := C0.out.grown g0 (by intro e; injection e with e; omega)
  have zf := cc.frozen 0
  have zc := cc.cell 0
  simp at zc
  have RR := Hd rr
  have CC := Hd cc
  have HH := Hd h0
  have GG := Hd (G0.out.trans g0)
  clear h0 g0 rr cc HC0 H0 R0 C0 G0
  go_wp2_with fail
  have h1' := HH.out.under (Bd := W.heap.size + 1) (below_setCell' (Below.refl _ _) (p := ⟨W.heap.size + 1, 0, none⟩) (Nat.le_refl _) (.float .f64 x)) (by omega)
  have r1' := RR.out.far (p := ⟨W.heap.size + 1, 0, none⟩) (by show W.heap.size ≠ W.heap.size + 1; omega) (.float .f64 x)
  have c1' : Blk (u0a.setCell ⟨W.heap.size + 1, 0, none⟩ (.float .f64 x)) (W.heap.size + 1) 107 #[.float .f64 x, .float .f64 0, .float .f64 0, .float .f64 0, .int .u8 2] := by simpa using CC.out.set_ 0 (.float .f64 x)
  have g1' := grown_under GG.out (below_setCell' (Below.refl (W.heap.size + 1) u0a) (p := ⟨W.heap.size + 1, 0, none⟩) (Nat.le_refl _) (.float .f64 x)) (by omega)
  generalize u0a.setCell ⟨W.heap.size + 1, 0, none⟩ (.float .f64 x) = w1 at *
  have H1 := Hd h1'
  have R1 := Hd r1'
  have C1 := Hd c1'
  have G1 := Hd g1'
  clear h1' r1' c1' g1' zf zc RR CC HH GG
  have HC1 := Hd (HF.out _ y _ HBN.out.2.1 H1.out)
  refine HC1.out.mono ?_
  rintro e u1a ⟨rfl, h1, g1⟩
  have rr := R1.out.grown g1 (by intro e; injection e with e; omega)
  have cc := C1.out.grown g1 (by intro e; injection e with e; omega)
  have zf := cc.frozen 1
  have zc := cc.cell 1
  simp at zc
  have RR := Hd rr
  have CC := Hd cc
  have HH := Hd h1
  have GG := Hd (G1.out.trans g1)
  clear h1 g1 rr cc HC1 H1 R1 C1 G1
  go_wp2_with fail
  have h2' := HH.out.under (Bd := W.heap.size + 1) (below_setCell' (Below.refl _ _) (p := ⟨W.heap.size + 1, 1, none⟩) (Nat.le_refl _) (.float .f64 y)) (by omega)
  have r2' := RR.out.far (p := ⟨W.heap.size + 1, 1, none⟩) (by show W.heap.size ≠ W.heap.size + 1; omega) (.float .f64 y)
  have c2' : Blk (u1a.setCell ⟨W.heap.size + 1, 1, none⟩ (.float .f64 y)) (W.heap.size + 1) 107 #[.float .f64 x, .float .f64 y, .float .f64 0, .float .f64 0, .int .u8 2] := by simpa using CC.out.set_ 1 (.float .f64 y)
  have g2' := grown_under GG.out (below_setCell' (Below.refl (W.heap.size + 1) u1a) (p := ⟨W.heap.size + 1, 1, none⟩) (Nat.le_refl _) (.float .f64 y)) (by omega)
  generalize u1a.setCell ⟨W.heap.size + 1, 1, none⟩ (.float .f64 y) = w2 at *
  have H2 := Hd h2'
  have R2 := Hd r2'
  have C2 := Hd c2'
  have G2 := Hd g2'
  clear h2' r2' c2' g2' zf zc RR CC HH GG
  have HC2 := Hd (HF.out _ m _ HBN.out.2.2 H2.out)
  refine HC2.out.mono ?_
  rintro e u2a ⟨rfl, h2, g2⟩
  have rr := R2.out.grown g2 (by intro e; injection e with e; omega)
  have cc := C2.out.grown g2 (by intro e; injection e with e; omega)
  have zf := cc.frozen 3
  have zc := cc.cell 3
  simp at zc
  have RR := Hd rr
  have CC := Hd cc
  have HH := Hd h2
  have GG := Hd (G2.out.trans g2)
  clear h2 g2 rr cc HC2 H2 R2 C2 G2
  go_upto_region 17 with fail
  have h3' := HH.out.under (Bd := W.heap.size + 1) (below_setCell' (Below.refl _ _) (p := ⟨W.heap.size + 1, 3, none⟩) (Nat.le_refl _) (.float .f64 m)) (by omega)
  have r3' := RR.out.far (p := ⟨W.heap.size + 1, 3, none⟩) (by show W.heap.size ≠ W.heap.size + 1; omega) (.float .f64 m)
  have c3' : Blk (u2a.setCell ⟨W.heap.size + 1, 3, none⟩ (.float .f64 m)) (W.heap.size + 1) 107 #[.float .f64 x, .float .f64 y, .float .f64 0, .float .f64 m, .int .u8 2] := by simpa using CC.out.set_ 3 (.float .f64 m)
  have g3' := grown_under GG.out (below_setCell' (Below.refl (W.heap.size + 1) u2a) (p := ⟨W.heap.size + 1, 3, none⟩) (Nat.le_refl _) (.float .f64 m)) (by omega)
  generalize u2a.setCell ⟨W.heap.size + 1, 3, none⟩ (.float .f64 m) = w3 at *
  have H3 := Hd h3'
  have R3 := Hd r3'
  have C3 := Hd c3'
  have G3 := Hd g3'
  clear h3' r3' c3' g3' zf zc RR CC HH GG
  have n0 := C3.out.cell 0
  have n1 := C3.out.cell 1
  have n2 := C3.out.cell 2
  have n3 := C3.out.cell 3
  have n4 := C3.out.cell 4
  simp at n0 n1 n2 n3 n4
  go_wp2_with (go_at_call 41; refine (isNaN_b _ _).mono ?_; rintro e w9 ⟨rfl, rfl⟩; (first | rw [h1] | rw [h2]))
  refine (NewPoint_any x y 0 m 2 _).mono ?_
  rintro e v9 ⟨rfl, b9⟩
  have r9 := (R3.out).below b9 R3.out.lt
  obtain ⟨c0, c1, c2, c3, c4, c5⟩ := six_cells r9 (.float .f64 x) (.float .f64 y) (.float .f64 0) (.float .f64 m) (.int .u8 2) (.bool true)
  have HW9 := Hd (H3.out.keep b9)
  have G9 := Hd (G3.out.trans (only_of_below b9 _))
  have z0 := r9.frozen 0
  have z1 := r9.frozen 1
  have z2 := r9.frozen 2
  have z3 := r9.frozen 3
  have z4 := r9.frozen 4
  have z5 := r9.frozen 5
  have y0 := r9.cell 0
  have y1 := r9.cell 1
  have y2 := r9.cell 2
  have y3 := r9.cell 3
  have y4 := r9.cell 4
  have y5 := r9.cell 5
  simp at y0 y1 y2 y3 y4 y5
  clear r9 b9 n0 n1 n2 n3 n4
  go_wp2
  refine bodyPost_ret (by simp [results, Tryz.results179, go_sem, c0, c1, c2, c3, c4, c5]; try rfl) rfl ?_
  refine ⟨rfl, HW9.out.under (Bd := W.heap.size) ?_ hlr, grown_under G9.out ?_ (Nat.le_refl _)⟩
  all_goals exact below_setCell' (below_setCell' (below_setCell' (below_setCell' (below_setCell' (below_setCell' (Below.refl W.heap.size v9) (p := ⟨W.heap.size, 0, none⟩) (Nat.le_refl _) _) (p := ⟨W.heap.size, 1, none⟩) (Nat.le_refl _) _) (p := ⟨W.heap.size, 2, none⟩) (Nat.le_refl _) _) (p := ⟨W.heap.size, 3, none⟩) (Nat.le_refl _) _) (p := ⟨W.heap.size, 4, none⟩) (Nat.le_refl _) _) (p := ⟨W.heap.size, 5, none⟩) (Nat.le_refl _) _

set_option maxRecDepth 100000 in
theorem parsePoint_2e {W : World} {B p : Nat} {no : Bool} (big : Bool) {x y m : Nat} {bs : List Int} (hb : x < 18446744073709551616 ∧ y < 18446744073709551616 ∧ m < 18446744073709551616) (h1 : feq x x = false) (h2 : feq y y = false) (h : Wp W B p (if big then 0 else 1) no (uB big 8 x ++ (uB big 8 y ++ (uB big 8 m ++ bs)))) :
    Calls Tryz.prog 179 #[.pointer (some ⟨p, 0, none⟩), .int .u8 2] W fun e w' => e = .returned (.tuple #[.agg #[.float .f64 0, .float .f64 0, .float .f64 0, .float .f64 0, .int .u8 2, .bool false], .nilIface]) ∧ Wp w' B p (if big then 0 else 1) no bs ∧ W.grownBy w' (some p) := by
  have HF : Hid (∀ (w : World) (v : Nat) (r : List Int), v < 18446744073709551616 → Wp w B p (if big then 0 else 1) no (uB big 8 v ++ r) → Calls Tryz.prog 212 #[.pointer (some ⟨p, 0, none⟩)] w fun e w' => e = .returned (.tuple #[.float .f64 v, .nilIface]) ∧ Wp w' B p (if big then 0 else 1) no r ∧ w.grownBy w' (some p)) := Hd (fun w v r hv hw => parseFloat64_any big v hv hw)
  generalize (if big = true then (0 : Int) else 1) = bo at *
  have hlr := h.lt
  have HBN := Hd hb
  have hw0 := h.keep ((Below.refl W.heap.size W).alloc (Nat.le_refl _) (.cells #[.float .f64 0, .float .f64 0, .float .f64 0, .float .f64 0, .int .u8 0, .bool false] 109))
  have hw1 := hw0.keep ((Below.refl _ _).alloc (Nat.le_refl _) (.cells #[.float .f64 0, .float .f64 0, .float .f64 0, .float .f64 0, .int .u8 2] 107))
  have r1 := (Blk.new W 109 #[.float .f64 0, .float .f64 0, .float .f64 0, .float .f64 0, .int .u8 0, .bool false]).alloc (.cells #[.float .f64 0, .float .f64 0, .float .f64 0, .float .f64 0, .int .u8 2] 107)
  have c1 := Blk.new (W.alloc (.cells #[.float .f64 0, .float .f64 0, .float .f64 0, .float .f64 0, .int .u8 0, .bool false] 109)) 107 #[.float .f64 0, .float .f64 0, .float .f64 0, .float .f64 0, .int .u8 2]
  rw [World.size_alloc] at c1
  have g1 : W.grownBy ((W.alloc (.cells #[.float .f64 0, .float .f64 0, .float .f64 0, .float .f64 0, .int .u8 0, .bool false] 109)).alloc (.cells #[.float .f64 0, .float .f64 0, .float .f64 0, .float .f64 0, .int .u8 2] 107)) (some p) := only_alloc (only_alloc (World.grownBy.refl W _) _) _
  have H0 := Hd hw1
  have R0 := Hd r1
  have C0 := Hd c1
  have G0 := Hd g1
  clear h hw0 hw1 r1 c1 g1 hb
  go_enter Tryz.func179, Tryz.ntmps179
  go_wp2_with fail
  generalize ((W.alloc (.cells #[.float .f64 0, .float .f64 0, .float .f64 0, .float .f64 0, .int .u8 0, .bool false] 109)).alloc (.cells #[.float .f64 0, .float .f64 0, .float .f64 0, .float .f64 0, .int .u8 2] 107)) = w0 at *
  have HC0 := Hd (HF.out _ x _ HBN.out.1 H0.out)
  refine HC0.out.mono ?_
  rintro e u0a ⟨rfl, h0, g0⟩
  have rr := R0.out.grown g0 (by intro e; injection e with e; omega)
  have cc := C0.out.grown g0 (by intro e; injection e with e; omega)
  have zf := cc.frozen 0
  have zc := cc.cell 0
  simp at zc
  have RR := Hd rr
  have CC := Hd cc
  have HH := Hd h0
  have GG := Hd (G0.out.trans g0)
  clear h0 g0 rr cc HC0 H0 R0 C0 G0
  go_wp2_with fail
  have h1' := HH.out.under (Bd := W.heap.size + 1) (below_setCell' (Below.refl _ _) (p := ⟨W.heap.size + 1, 0, none⟩) (Nat.le_refl _) (.float .f64 x)) (by omega)
  have r1' := RR.out.far (p := ⟨W.heap.size + 1, 0, none⟩) (by show W.heap.size ≠ W.heap.size + 1; omega) (.float .f64 x)
  have c1' : Blk (u0a.setCell ⟨W.heap.size + 1, 0, none⟩ (.float .f64 x)) (W.heap.size + 1) 107 #[.float .f64 x, .float .f64 0, .float .f64 0, .float .f64 0, .int .u8 2] := by simpa using CC.out.set_ 0 (.float .f64 x)
  have g1' := grown_under GG.out (below_setCell' (Below.refl (W.heap.size + 1) u0a) (p := ⟨W.heap.size + 1, 0, none⟩) (Nat.le_refl _) (.float .f64 x)) (by omega)
  generalize u0a.setCell ⟨W.heap.size + 1, 0, none⟩ (.float .f64 x) = w1 at *
  have H1 := Hd h1'
  have R1 := Hd r1'
  have C1 := Hd c1'
  have G1 := Hd g1'
  clear h1' r1' c1' g1' zf zc RR CC HH GG
  have HC1 := Hd (HF.out _ y _ HBN.out.2.1 H1.out)
  refine HC1.out.mono ?_
  rintro e u1a ⟨rfl, h1, g1⟩
  have rr := R1.out.grown g1 (by intro e; injection e with e; omega)
  have cc := C1.out.grown g1 (by intro e; injection e with e; omega)
  have zf := cc.frozen 1
  have zc := cc.cell 1
  simp at zc
  have RR := Hd rr
  have CC := Hd cc
  have HH := Hd h1
  have GG := Hd (G1.out.trans g1)
  clear h1 g1 rr cc HC1 H1 R1 C1 G1
  go_wp2_with fail
  have h2' := HH.out.under (Bd := W.heap.size + 1) (below_setCell' (Below.refl _ _) (p := ⟨W.heap.size + 1, 1, none⟩) (Nat.le_refl _) (.float .f64 y)) (by omega)
  have r2' := RR.out.far (p := ⟨W.heap.size + 1, 1, none⟩) (by show W.heap.size ≠ W.heap.size + 1; omega) (.float .f64 y)
  have c2' : Blk (u1a.setCell ⟨W.heap.size + 1, 1, none⟩ (.float .f64 y)) (W.heap.size + 1) 107 #[.float .f64 x, .float .f64 y, .float .f64 0, .float .f64 0, .int .u8 2] := by simpa using CC.out.set_ 1 (.float .f64 y)
  have g2' := grown_under GG.out (below_setCell' (Below.refl (W.heap.size + 1) u1a) (p := ⟨W.heap.size + 1, 1, none⟩) (Nat.le_refl _) (.float .f64 y)) (by omega)
  generalize u1a.setCell ⟨W.heap.size + 1, 1, none⟩ (.float .f64 y) = w2 at *
  have H2 := Hd h2'
  have R2 := Hd r2'
  have C2 := Hd c2'
  have G2 := Hd g2'
  clear h2' r2' c2' g2' zf zc RR CC HH GG
  have HC2 := Hd (HF.out _ m _ HBN.out.2.2 H2.out)
  refine HC2.out.mono ?_
  rintro e u2a ⟨rfl, h2, g2⟩
  have rr := R2.out.grown g2 (by intro e; injection e with e; omega)
  have cc := C2.out.grown g2 (by intro e; injection e with e; omega)
  have zf := cc.frozen 3
  have zc := cc.cell 3
  simp at zc
  have RR := Hd rr
  have CC := Hd cc
  have HH := Hd h2
  have GG := Hd (G2.out.trans g2)
  clear h2 g2 rr cc HC2 H2 R2 C2 G2
  go_upto_region 17 with fail
  have h3' := HH.out.under (Bd := W.heap.size + 1) (below_setCell' (Below.refl _ _) (p := ⟨W.heap.size + 1, 3, none⟩) (Nat.le_refl _) (.float .f64 m)) (by omega)
  have r3' := RR.out.far (p := ⟨W.heap.size + 1, 3, none⟩) (by show W.heap.size ≠ W.heap.size + 1; omega) (.float .f64 m)
  have c3' : Blk (u2a.setCell ⟨W.heap.size + 1, 3, none⟩ (.float .f64 m)) (W.heap.size + 1) 107 #[.float .f64 x, .float .f64 y, .float .f64 0, .float .f64 m, .int .u8 2] := by simpa using CC.out.set_ 3 (.float .f64 m)
  have g3' := grown_under GG.out (below_setCell' (Below.refl (W.heap.size + 1) u2a) (p := ⟨W.heap.size + 1, 3, none⟩) (Nat.le_refl _) (.float .f64 m)) (by omega)
  generalize u2a.setCell ⟨W.heap.size + 1, 3, none⟩ (.float .f64 m) = w3 at *
  have H3 := Hd h3'
  have R3 := Hd r3'
  have C3 := Hd c3'
  have G3 := Hd g3'
  clear h3' r3' c3' g3' zf zc RR CC HH GG
  have n0 := C3.out.cell 0
  have n1 := C3.out.cell 1
  have n2 := C3.out.cell 2
  have n3 := C3.out.cell 3
  have n4 := C3.out.cell 4
  simp at n0 n1 n2 n3 n4
  go_wp2_with (go_at_call 41; refine (isNaN_b _ _).mono ?_; rintro e w9 ⟨rfl, rfl⟩; (first | rw [h1] | rw [h2]))
  refine (PtForce_none 2 0 0 0 0 0 _).mono ?_
  rintro e v9 ⟨rfl, b9⟩
  have r9 := (R3.out).below b9 R3.out.lt
  obtain ⟨c0, c1, c2, c3, c4, c5⟩ := six_cells r9 (.float .f64 0) (.float .f64 0) (.float .f64 0) (.float .f64 0) (.int .u8 2) (.bool false)
  have HW9 := Hd (H3.out.keep b9)
  have G9 := Hd (G3.out.trans (only_of_below b9 _))
  have z0 := r9.frozen 0
  have z1 := r9.frozen 1
  have z2 := r9.frozen 2
  have z3 := r9.frozen 3
  have z4 := r9.frozen 4
  have z5 := r9.frozen 5
  have y0 := r9.cell 0
  have y1 := r9.cell 1
  have y2 := r9.cell 2
  have y3 := r9.cell 3
  have y4 := r9.cell 4
  have y5 := r9.cell 5
  simp at y0 y1 y2 y3 y4 y5
  clear r9 b9 n0 n1 n2 n3 n4
  go_wp2
  refine bodyPost_ret (by simp [results, Tryz.results179, go_sem, c0, c1, c2, c3, c4, c5]; try rfl) rfl ?_
  refine ⟨rfl, HW9.out.under (Bd := W.heap.size) ?_ hlr, grown_under G9.out ?_ (Nat.le_refl _)⟩
  all_goals exact below_setCell' (below_setCell' (below_setCell' (below_setCell' (below_setCell' (below_setCell' (Below.refl W.heap.size v9) (p := ⟨W.heap.size, 0, none⟩) (Nat.le_refl _) _) (p := ⟨W.heap.size, 1, none⟩) (Nat.le_refl _) _) (p := ⟨W.heap.size, 2, none⟩) (Nat.le_refl _) _) (p := ⟨W.heap.size, 3, none⟩) (Nat.le_refl _) _) (p := ⟨W.heap.size, 4, none⟩) (Nat.le_refl _) _) (p := ⟨W.heap.size, 5, none⟩) (Nat.le_refl _) _

set_option maxRecDepth 100000 in
theorem parsePoint_3f {W : World} {B p : Nat} {no : Bool} (big : Bool) {x y z m : Nat} {bs : List Int} (hb : x < 18446744073709551616 ∧ y < 18446744073709551616 ∧ z < 18446744073709551616 ∧ m < 18446744073709551616) (h1 : feq x x = true) (h2 : feq y y = true) (h : Wp W B p (if big then 0 else 1) no (uB big 8 x ++ (uB big 8 y ++ (uB big 8 z ++ (uB big 8 m ++ bs))))) :
    Calls Tryz.prog 179 #[.pointer (some ⟨p, 0, none⟩), .int .u8 3] W fun e w' => e = .returned (.tuple #[.agg #[.float .f64 x, .float .f64 y, .float .f64 z, .float .f64 m, .int .u8 3, .bool true], .nilIface]) ∧ Wp w' B p (if big then 0 else 1) no bs ∧ W.grownBy w' (some p) := by
  have HF : Hid (∀ (w : World) (v : Nat) (r : List Int), v < 18446744073709551616 → Wp w B p (if big then 0 else 1) no (uB big 8 v ++ r) → Calls Tryz.prog 212 #[.pointer (some ⟨p, 0, none⟩)] w fun e w' => e = .returned (.tuple #[.float .f64 v, .nilIface]) ∧ Wp w' B p (if big then 0 else 1) no r ∧ w.grownBy w' (some p)) := Hd (fun w v r hv hw => parseFloat64_any big v hv hw)
  generalize (if big = true then (0 : Int) else 1) = bo at *
  have hlr := h.lt
  have HBN := Hd hb
  have hw0 := h.keep ((Below.refl W.heap.size W).alloc (Nat.le_refl _) (.cells #[.float .f64 0, .float .f64 0, .float .f64 0, .float .f64 0, .int .u8 0, .bool false] 109))
  have hw1 := hw0.keep ((Below.refl _ _).alloc (Nat.le_refl _) (.cells #[.float .f64 0, .float .f64 0, .float .f64 0, .float .f64 0, .int .u8 3] 107))
  have r1 := (Blk.new W 109 #[.float .f64 0, .float .f64 0, .float .f64 0, .float .f64 0, .int .u8 0, .bool false]).alloc (.cells #[.float .f64 0, .float .f64 0, .float .f64 0, .float .f64 0, .int .u8 3] 107)
  have c1 := Blk.new (W.alloc (.cells #[.float .f64 0, .float .f64 0, .float .f64 0, .float .f64 0, .int .u8 0, .bool false] 109)) 107 #[.float .f64 0, .float .f64 0, .float .f64 0, .float .f64 0, .int .u8 3]
  rw [World.size_alloc] at c1
  have g1 : W.grownBy ((W.alloc (.cells #[.float .f64 0, .float .f64 0, .float .f64 0, .float .f64 0, .int .u8 0, .bool false] 109)).alloc (.cells #[.float .f64 0, .float .f64 0, .float .f64 0, .float .f64 0, .int .u8 3] 107)) (some p) := only_alloc (only_alloc (World.grownBy.refl W _) _) _
  have H0 := Hd hw1
  have R0 := Hd r1
  have C0 := Hd c1
  have G0 := Hd g1
  clear h hw0 hw1 r1 c1 g1 hb
  go_enter Tryz.func179, Tryz.ntmps179
  go_wp2_with fail
  generalize ((W.alloc (.cells #[.float .f64 0, .float .f64 0, .float .f64 0, .float .f64 0, .int .u8 0, .bool false] 109)).alloc (.cells #[.float .f64 0, .float .f64 0, .float .f64 0, .float .f64 0, .int .u8 3] 107)) = w0 at *
  have HC0 := Hd (HF.out _ x _ HBN.out.1 H0.out)
  refine HC0.out.mono ?_
  rintro e u0a ⟨rfl, h0, g0⟩
  have rr := R0.out.grown g0 (by intro e; injection e with e; omega)
  have cc := C0.out.grown g0 (by intro e; injection e with e; omega)
  have zf := cc.frozen 0
  have zc := cc.cell 0
  simp at zc
  have RR := Hd rr
  have CC := Hd cc
  have HH := Hd h0
  have GG := Hd (G0.out.trans g0)
  clear h0 g0 rr cc HC0 H0 R0 C0 G0
  go_wp2_with fail
  have h1' := HH.out.under (Bd := W.heap.size + 1) (below_setCell' (Below.refl _ _) (p := ⟨W.heap.size + 1, 0, none⟩) (Nat.le_refl _) (.float .f64 x)) (by omega)
  have r1' := RR.out.far (p := ⟨W.heap.size + 1, 0, none⟩) (by show W.heap.size ≠ W.heap.size + 1; omega) (.float .f64 x)
  have c1' : Blk (u0a.setCell ⟨W.heap.size + 1, 0, none⟩ (.float .f64 x)) (W.heap.size + 1) 107 #[.float .f64 x, .float .f64 0, .float .f64 0, .float .f64 0, .int .u8 3] := by simpa using CC.out.set_ 0 (.float .f64 x)
  have g1' := grown_under GG.out (below_setCell' (Below.refl (W.heap.size + 1) u0a) (p := ⟨W.heap.size + 1, 0, none⟩) (Nat.le_refl _) (.float .f64 x)) (by omega)
  generalize u0a.setCell ⟨W.heap.size + 1, 0, none⟩ (.float .f64 x) = w1 at *
  have H1 := Hd h1'
  have R1 := Hd r1'
  have C1 := Hd c1'
  have G1 := Hd g1'
  clear h1' r1' c1' g1' zf zc RR CC HH GG
  have HC1 := Hd (HF.out _ y _ HBN.out.2.1 H1.out)
  refine HC1.out.mono ?_
  rintro e u1a ⟨rfl, h1, g1⟩
  have rr := R1.out.grown g1 (by intro e; injection e with e; omega)
  have cc := C1.out.grown g1 (by intro e; injection e with e; omega)
  have zf := cc.frozen 1
  have zc := cc.cell 1
  simp at zc
  have RR := Hd rr
  have CC := Hd cc
  have HH := Hd h1
  have GG := Hd (G1.out.trans g1)
  clear h1 g1 rr cc HC1 H1 R1 C1 G1
  go_wp2_with fail
  have h2' := HH.out.under (Bd := W.heap.size + 1) (below_setCell' (Below.refl _ _) (p := ⟨W.heap.size + 1, 1, none⟩) (Nat.le_refl _) (.float .f64 y)) (by omega)
  have r2' := RR.out.far (p := ⟨W.heap.size + 1, 1, none⟩) (by show W.heap.size ≠ W.heap.size + 1; omega) (.float .f64 y)
  have c2' : Blk (u1a.setCell ⟨W.heap.size + 1, 1, none⟩ (.float .f64 y)) (W.heap.size + 1) 107 #[.float .f64 x, .float .f64 y, .float .f64 0, .float .f64 0, .int .u8 3] := by simpa using CC.out.set_ 1 (.float .f64 y)
  have g2' := grown_under GG.out (below_setCell' (Below.refl (W.heap.size + 1) u1a) (p := ⟨W.heap.size + 1, 1, none⟩) (Nat.le_refl _) (.float .f64 y)) (by omega)
  generalize u1a.setCell ⟨W.heap.size + 1, 1, none⟩ (.float .f64 y) = w2 at *
  have H2 := Hd h2'
  have R2 := Hd r2'
  have C2 := Hd c2'
  have G2 := Hd g2'
  clear h2' r2' c2' g2' zf zc RR CC HH GG
  have HC2 := Hd (HF.out _ z _ HBN.out.2.2.1 H2.out)
  refine HC2.out.mono ?_
  rintro e u2a ⟨rfl, h2, g2⟩
  have rr := R2.out.grown g2 (by intro e; injection e with e; omega)
  have cc := C2.out.grown g2 (by intro e; injection e with e; omega)
  have zf := cc.frozen 2
  have zc := cc.cell 2
  simp at zc
  have RR := Hd rr
  have CC := Hd cc
  have HH := Hd h2
  have GG := Hd (G2.out.trans g2)
  clear h2 g2 rr cc HC2 H2 R2 C2 G2
  go_wp2_with fail
  have h3' := HH.out.under (Bd := W.heap.size + 1) (below_setCell' (Below.refl _ _) (p := ⟨W.heap.size + 1, 2, none⟩) (Nat.le_refl _) (.float .f64 z)) (by omega)
  have r3' := RR.out.far (p := ⟨W.heap.size + 1, 2, none⟩) (by show W.heap.size ≠ W.heap.size + 1; omega) (.float .f64 z)
  have c3' : Blk (u2a.setCell ⟨W.heap.size + 1, 2, none⟩ (.float .f64 z)) (W.heap.size + 1) 107 #[.float .f64 x, .float .f64 y, .float .f64 z, .float .f64 0, .int .u8 3] := by simpa using CC.out.set_ 2 (.float .f64 z)
  have g3' := grown_under GG.out (below_setCell' (Below.refl (W.heap.size + 1) u2a) (p := ⟨W.heap.size + 1, 2, none⟩) (Nat.le_refl _) (.float .f64 z)) (by omega)
  generalize u2a.setCell ⟨W.heap.size + 1, 2, none⟩ (.float .f64 z) = w3 at *
  have H3 := Hd h3'
  have R3 := Hd r3'
  have C3 := Hd c3'
  have G3 := Hd g3'
  clear h3' r3' c3' g3' zf zc RR CC HH GG
  have HC3 := Hd (HF.out _ m _ HBN.out.2.2.2 H3.out)
  refine HC3.out.mono ?_
  rintro e u3a ⟨rfl, h3, g3⟩
  have rr := R3.out.grown g3 (by intro e; injection e with e; omega)
  have cc := C3.out.grown g3 (by intro e; injection e with e; omega)
  have zf := cc.frozen 3
  have zc := cc.cell 3
  simp at zc
  have RR := Hd rr
  have CC := Hd cc
  have HH := Hd h3
  have GG := Hd (G3.out.trans g3)
  clear h3 g3 rr cc HC3 H3 R3 C3 G3
  go_upto_region 17 with fail
  have h4' := HH.out.under (Bd := W.heap.size + 1) (below_setCell' (Below.refl _ _) (p := ⟨W.heap.size + 1, 3, none⟩) (Nat.le_refl _) (.float .f64 m)) (by omega)
  have r4' := RR.out.far (p := ⟨W.heap.size + 1, 3, none⟩) (by show W.heap.size ≠ W.heap.size + 1; omega) (.float .f64 m)
  have c4' : Blk (u3a.setCell ⟨W.heap.size + 1, 3, none⟩ (.float .f64 m)) (W.heap.size + 1) 107 #[.float .f64 x, .float .f64 y, .float .f64 z, .float .f64 m, .int .u8 3] := by simpa using CC.out.set_ 3 (.float .f64 m)
  have g4' := grown_under GG.out (below_setCell' (Below.refl (W.heap.size + 1) u3a) (p := ⟨W.heap.size + 1, 3, none⟩) (Nat.le_refl _) (.float .f64 m)) (by omega)
  generalize u3a.setCell ⟨W.heap.size + 1, 3, none⟩ (.float .f64 m) = w4 at *
  have H4 := Hd h4'
  have R4 := Hd r4'
  have C4 := Hd c4'
  have G4 := Hd g4'
  clear h4' r4' c4' g4' zf zc RR CC HH GG
  have n0 := C4.out.cell 0
  have n1 := C4.out.cell 1
  have n2 := C4.out.cell 2
  have n3 := C4.out.cell 3
  have n4 := C4.out.cell 4
  simp at n0 n1 n2 n3 n4
  go_wp2_with (go_at_call 41; refine (isNaN_b _ _).mono ?_; rintro e w9 ⟨rfl, rfl⟩; (first | rw [h1] | rw [h2]))
  refine (NewPoint_any x y z m 3 _).mono ?_
  rintro e v9 ⟨rfl, b9⟩
  have r9 := (R4.out).below b9 R4.out.lt
  obtain ⟨c0, c1, c2, c3, c4, c5⟩ := six_cells r9 (.float .f64 x) (.float .f64 y) (.float .f64 z) (.float .f64 m) (.int .u8 3) (.bool true)
  have HW9 := Hd (H4.out.keep b9)
  have G9 := Hd (G4.out.trans (only_of_below b9 _))
  have z0 := r9.frozen 0
  have z1 := r9.frozen 1
  have z2 := r9.frozen 2
  have z3 := r9.frozen 3
  have z4 := r9.frozen 4
  have z5 := r9.frozen 5
  have y0 := r9.cell 0
  have y1 := r9.cell 1
  have y2 := r9.cell 2
  have y3 := r9.cell 3
  have y4 := r9.cell 4
  have y5 := r9.cell 5
  simp at y0 y1 y2 y3 y4 y5
  clear r9 b9 n0 n1 n2 n3 n4
  go_wp2
  refine bodyPost_ret (by simp [results, Tryz.results179, go_sem, c0, c1, c2, c3, c4, c5]; try rfl) rfl ?_
  refine ⟨rfl, HW9.out.under (Bd := W.heap.size) ?_ hlr, grown_under G9.out ?_ (Nat.le_refl _)⟩
  all_goals exact below_setCell' (below_setCell' (below_setCell' (below_setCell' (below_setCell' (below_setCell' (Below.refl W.heap.size v9) (p := ⟨W.heap.size, 0, none⟩) (Nat.le_refl _) _) (p := ⟨W.heap.size, 1, none⟩) (Nat.le_refl _) _) (p := ⟨W.heap.size, 2, none⟩) (Nat.le_refl _) _) (p := ⟨W.heap.size, 3, none⟩) (Nat.le_refl _) _) (p := ⟨W.heap.size, 4, none⟩) (Nat.le_refl _) _) (p := ⟨W.heap.size, 5, none⟩) (Nat.le_refl _) _

set_option maxRecDepth 100000 in
theorem parsePoint_3e {W : World} {B p : Nat} {no : Bool} (big : Bool) {x y z m : Nat} {bs : List Int} (hb : x < 18446744073709551616 ∧ y < 18446744073709551616 ∧ z < 18446744073709551616 ∧ m < 18446744073709551616) (h1 : feq x x = false) (h2 : feq y y = false) (h : Wp W B p (if big then 0 else 1) no (uB big 8 x ++ (uB big 8 y ++ (uB big 8 z ++ (uB big 8 m ++ bs))))) :
    Calls Tryz.prog 179 #[.pointer (some ⟨p, 0, none⟩), .int .u8 3] W fun e w' => e = .returned (.tuple #[.agg #[.float .f64 0, .float .f64 0, .float .f64 0, .float .f64 0, .int .u8 3, .bool false], .nilIface]) ∧ Wp w' B p (if big then 0 else 1) no bs ∧ W.grownBy w' (some p) := by
  have HF : Hid (∀ (w : World) (v : Nat) (r : List Int), v < 18446744073709551616 → Wp w B p (if big then 0 else 1) no (uB big 8 v ++ r) → Calls Tryz.prog 212 #[.pointer (some ⟨p, 0, none⟩)] w fun e w' => e = .returned (.tuple #[.float .f64 v, .nilIface]) ∧ Wp w' B p (if big then 0 else 1) no r ∧ w.grownBy w' (some p)) := Hd (fun w v r hv hw => parseFloat64_any big v hv hw)
  generalize (if big = true then (0 : Int) else 1) = bo at *
  have hlr := h.lt
  have HBN := Hd hb
  have hw0 := h.keep ((Below.refl W.heap.size W).alloc (Nat.le_refl _) (.cells #[.float .f64 0, .float .f64 0, .float .f64 0, .float .f64 0, .int .u8 0, .bool false] 109))
  have hw1 := hw0.keep ((Below.refl _ _).alloc (Nat.le_refl _) (.cells #[.float .f64 0, .float .f64 0, .float .f64 0, .float .f64 0, .int .u8 3] 107))
  have r1 := (Blk.new W 109 #[.float .f64 0, .float .f64 0, .float .f64 0, .float .f64 0, .int .u8 0, .bool false]).alloc (.cells #[.float .f64 0, .float .f64 0, .float .f64 0, .float .f64 0, .int .u8 3] 107)
  have c1 := Blk.new (W.alloc (.cells #[.float .f64 0, .float .f64 0, .float .f64 0, .float .f64 0, .int .u8 0, .bool false] 109)) 107 #[.float .f64 0, .float .f64 0, .float .f64 0, .float .f64 0, .int .u8 3]
  rw [World.size_alloc] at c1
  have g1 : W.grownBy ((W.alloc (.cells #[.float .f64 0, .float .f64 0, .float .f64 0, .float .f64 0, .int .u8 0, .bool false] 109)).alloc (.cells #[.float .f64 0, .float .f64 0, .float .f64 0, .float .f64 0, .int .u8 3] 107)) (some p) := only_alloc (only_alloc (World.grownBy.refl W _) _) _
  have H0 := Hd hw1
  have R0 := Hd r1
  have C0 := Hd c1
  have G0 := Hd g1
  clear h hw0 hw1 r1 c1 g1 hb
  go_enter Tryz.func179, Tryz.ntmps179
  go_wp2_with fail
  generalize ((W.alloc (.cells #[.float .f64 0, .float .f64 0, .float .f64 0, .float .f64 0, .int .u8 0, .bool false] 109)).alloc (.cells #[.float .f64 0, .float .f64 0, .float .f64 0, .float .f64 0, .int .u8 3] 107)) = w0 at *
  have HC0 := Hd (HF.out _ x _ HBN.out.1 H0.out)
  refine HC0.out.mono ?_
  rintro e u0a ⟨rfl, h0, g0⟩
  have rr := R0.out.grown g0 (by intro e; injection e with e; omega)
  have cc := C0.out.grown g0 (by intro e; injection e with e; omega)
  have zf := cc.frozen 0
  have zc := cc.cell 0
  simp at zc
  have RR := Hd rr
  have CC := Hd cc
  have HH := Hd h0
  have GG := Hd (G0.out.trans g0)
  clear h0 g0 rr cc HC0 H0 R0 C0 G0
  go_wp2_with fail
  have h1' := HH.out.under (Bd := W.heap.size + 1) (below_setCell' (Below.refl _ _) (p := ⟨W.heap.size + 1, 0, none⟩) (Nat.le_refl _) (.float .f64 x)) (by omega)
  have r1' := RR.out.far (p := ⟨W.heap.size + 1, 0, none⟩) (by show W.heap.size ≠ W.heap.size + 1; omega) (.float .f64 x)
  have c1' : Blk (u0a.setCell ⟨W.heap.size + 1, 0, none⟩ (.float .f64 x)) (W.heap.size + 1) 107 #[.float .f64 x, .float .f64 0, .float .f64 0, .float .f64 0, .int .u8 3] := by simpa using CC.out.set_ 0 (.float .f64 x)
  have g1' := grown_under GG.out (below_setCell' (Below.refl (W.heap.size + 1) u0a) (p := ⟨W.heap.size + 1, 0, none⟩) (Nat.le_refl _) (.float .f64 x)) (by omega)
  generalize u0a.setCell ⟨W.heap.size + 1, 0, none⟩ (.float .f64 x) = w1 at *
  have H1 := Hd h1'
  have R1 := Hd r1'
  have C1 := Hd c1'
  have G1 := Hd g1'
  clear h1' r1' c1' g1' zf zc RR CC HH GG
  have HC1 := Hd (HF.out _ y _ HBN.out.2.1 H1.out)
  refine HC1.out.mono ?_
  rintro e u1a ⟨rfl, h1, g1⟩
  have rr := R1.out.grown g1 (by intro e; injection e with e; omega)
  have cc := C1.out.grown g1 (by intro e; injection e with e; omega)
  have zf := cc.frozen 1
  have zc := cc.cell 1
  simp at zc
  have RR := Hd rr
  have CC := Hd cc
  have HH := Hd h1
  have GG := Hd (G1.out.trans g1)
  clear h1 g1 rr cc HC1 H1 R1 C1 G1
  go_wp2_with fail
  have h2' := HH.out.under (Bd := W.heap.size + 1) (below_setCell' (Below.refl _ _) (p := ⟨W.heap.size + 1, 1, none⟩) (Nat.le_refl _) (.float .f64 y)) (by omega)
  have r2' := RR.out.far (p := ⟨W.heap.size + 1, 1, none⟩) (by show W.heap.size ≠ W.heap.size + 1; omega) (.float .f64 y)
  have c2' : Blk (u1a.setCell ⟨W.heap.size + 1, 1, none⟩ (.float .f64 y)) (W.heap.size + 1) 107 #[.float .f64 x, .float .f64 y, .float .f64 0, .float .f64 0, .int .u8 3] := by simpa using CC.out.set_ 1 (.float .f64 y)
  have g2' := grown_under GG.out (below_setCell' (Below.refl (W.heap.size + 1) u1a) (p := ⟨W.heap.size + 1, 1, none⟩) (Nat.le_refl _) (.float .f64 y)) (by omega)
  generalize u1a.setCell ⟨W.heap.size + 1, 1, none⟩ (.float .f64 y) = w2 at *
  have H2 := Hd h2'
  have R2 := Hd r2'
  have C2 := Hd c2'
  have G2 := Hd g2'
  clear h2' r2' c2' g2' zf zc RR CC HH GG
  have HC2 := Hd (HF.out _ z _ HBN.out.2.2.1 H2.out)
  refine HC2.out.mono ?_
  rintro e u2a ⟨rfl, h2, g2⟩
  have rr := R2.out.grown g2 (by intro e; injection e with e; omega)
  have cc := C2.out.grown g2 (by intro e; injection e with e; omega)
  have zf := cc.frozen 2
  have zc := cc.cell 2
  simp at zc
  have RR := Hd rr
  have CC := Hd cc
  have HH := Hd h2
  have GG := Hd (G2.out.trans g2)
  clear h2 g2 rr cc HC2 H2 R2 C2 G2
  go_wp2_with fail
  have h3' := HH.out.under (Bd := W.heap.size + 1) (below_setCell' (Below.refl _ _) (p := ⟨W.heap.size + 1, 2, none⟩) (Nat.le_refl _) (.float .f64 z)) (by omega)
  have r3' := RR.out.far (p := ⟨W.heap.size + 1, 2, none⟩) (by show W.heap.size ≠ W.heap.size + 1; omega) (.float .f64 z)
  have c3' : Blk (u2a.setCell ⟨W.heap.size + 1, 2, none⟩ (.float .f64 z)) (W.heap.size + 1) 107 #[.float .f64 x, .float .f64 y, .float .f64 z, .float .f64 0, .int .u8 3] := by simpa using CC.out.set_ 2 (.float .f64 z)
  have g3' := grown_under GG.out (below_setCell' (Below.refl (W.heap.size + 1) u2a) (p := ⟨W.heap.size + 1, 2, none⟩) (Nat.le_refl _) (.float .f64 z)) (by omega)
  generalize u2a.setCell ⟨W.heap.size + 1, 2, none⟩ (.float .f64 z) = w3 at *
  have H3 := Hd h3'
  have R3 := Hd r3'
  have C3 := Hd c3'
  have G3 := Hd g3'
  clear h3' r3' c3' g3' zf zc RR CC HH GG
  have HC3 := Hd (HF.out _ m _ HBN.out.2.2.2 H3.out)
  refine HC3.out.mono ?_
  rintro e u3a ⟨rfl, h3, g3⟩
  have rr := R3.out.grown g3 (by intro e; injection e with e; omega)
  have cc := C3.out.grown g3 (by intro e; injection e with e; omega)
  have zf := cc.frozen 3
  have zc := cc.cell 3
  simp at zc
  have RR := Hd rr
  have CC := Hd cc
  have HH := Hd h3
  have GG := Hd (G3.out.trans g3)
  clear h3 g3 rr cc HC3 H3 R3 C3 G3
  go_upto_region 17 with fail
  have h4' := HH.out.under (Bd := W.heap.size + 1) (below_setCell' (Below.refl _ _) (p := ⟨W.heap.size + 1, 3, none⟩) (Nat.le_refl _) (.float .f64 m)) (by omega)
  have r4' := RR.out.far (p := ⟨W.heap.size + 1, 3, none⟩) (by show W.heap.size ≠ W.heap.size + 1; omega) (.float .f64 m)
  have c4' : Blk (u3a.setCell ⟨W.heap.size + 1, 3, none⟩ (.float .f64 m)) (W.heap.size + 1) 107 #[.float .f64 x, .float .f64 y, .float .f64 z, .float .f64 m, .int .u8 3] := by simpa using CC.out.set_ 3 (.float .f64 m)
  have g4' := grown_under GG.out (below_setCell' (Below.refl (W.heap.size + 1) u3a) (p := ⟨W.heap.size + 1, 3, none⟩) (Nat.le_refl _) (.float .f64 m)) (by omega)
  generalize u3a.setCell ⟨W.heap.size + 1, 3, none⟩ (.float .f64 m) = w4 at *
  have H4 := Hd h4'
  have R4 := Hd r4'
  have C4 := Hd c4'
  have G4 := Hd g4'
  clear h4' r4' c4' g4' zf zc RR CC HH GG
  have n0 := C4.out.cell 0
  have n1 := C4.out.cell 1
  have n2 := C4.out.cell 2
  have n3 := C4.out.cell 3
  have n4 := C4.out.cell 4
  simp at n0 n1 n2 n3 n4
  go_wp2_with (go_at_call 41; refine (isNaN_b _ _).mono ?_; rintro e w9 ⟨rfl, rfl⟩; (first | rw [h1] | rw [h2]))
  refine (PtForce_none 3 0 0 0 0 0 _).mono ?_
  rintro e v9 ⟨rfl, b9⟩
  have r9 := (R4.out).below b9 R4.out.lt
  obtain ⟨c0, c1, c2, c3, c4, c5⟩ := six_cells r9 (.float .f64 0) (.float .f64 0) (.float .f64 0) (.float .f64 0) (.int .u8 3) (.bool false)
  have HW9 := Hd (H4.out.keep b9)
  have G9 := Hd (G4.out.trans (only_of_below b9 _))
  have z0 := r9.frozen 0
  have z1 := r9.frozen 1
  have z2 := r9.frozen 2
  have z3 := r9.frozen 3
  have z4 := r9.frozen 4
  have z5 := r9.frozen 5
  have y0 := r9.cell 0
  have y1 := r9.cell 1
  have y2 := r9.cell 2
  have y3 := r9.cell 3
  have y4 := r9.cell 4
  have y5 := r9.cell 5
  simp at y0 y1 y2 y3 y4 y5
  clear r9 b9 n0 n1 n2 n3 n4
  go_wp2
  refine bodyPost_ret (by simp [results, Tryz.results179, go_sem, c0, c1, c2, c3, c4, c5]; try rfl) rfl ?_
  refine ⟨rfl, HW9.out.under (Bd := W.heap.size) ?_ hlr, grown_under G9.out ?_ (Nat.le_refl _)⟩
  all_goals exact below_setCell' (below_setCell' (below_setCell' (below_setCell' (below_setCell' (below_setCell' (Below.refl W.heap.size v9) (p := ⟨W.heap.size, 0, none⟩) (Nat.le_refl _) _) (p := ⟨W.heap.size, 1, none⟩) (Nat.le_refl _) _) (p := ⟨W.heap.size, 2, none⟩) (Nat.le_refl _) _) (p := ⟨W.heap.size, 3, none⟩) (Nat.le_refl _) _) (p := ⟨W.heap.size, 4, none⟩) (Nat.le_refl _) _) (p := ⟨W.heap.size, 5, none⟩) (Nat.le_refl _) _

/-- The parser's point of well formed data without NaN. -/
theorem parsePoint_any {W : World} {B p : Nat} {no : Bool} (big : Bool) {D : Int} {ns : List Nat} {bs : List Int} (d0 : 0 ≤ D) (d1 : D ≤ 3) (hw : ns = [] ∨ ns.length = wd D) (hb : ∀ b ∈ ns, b < 18446744073709551616) (hn : ∀ b ∈ ns, feq b b = true) (h : Wp W B p (if big then 0 else 1) no ((if ns = [] then (List.replicate (wd D) (uB big 8 emptyBits)).flatten else numsB big ns) ++ bs)) :
    Calls Tryz.prog 179 #[.pointer (some ⟨p, 0, none⟩), .int .u8 D] W fun e w' => ∃ (x y z m : Nat) (q : Int) (f : Bool), e = .returned (.tuple #[.agg #[.float .f64 x, .float .f64 y, .float .f64 z, .float .f64 m, .int .u8 q, .bool f], .nilIface]) ∧ PtG w' (fun b => W.heap.size ≤ b) [.float .f64 x, .float .f64 y, .float .f64 z, .float .f64 m, .int .u8 q, .bool f] (.mk 1 D ns []) ∧ Wp w' B p (if big then 0 else 1) no bs ∧ W.grownBy w' (some p) := by
  have he : emptyBits < 18446744073709551616 := by decide
  have hD : D = 0 ∨ D = 1 ∨ D = 2 ∨ D = 3 := by omega
  by_cases hns : ns = []
  · subst hns
    rw [if_pos rfl] at h
    rcases hD with rfl | rfl | rfl | rfl
    · refine (parsePoint_0e big (bs := bs) ⟨he, he⟩ nan_empty nan_empty (by
        have e : (List.replicate (wd 0) (uB big 8 emptyBits)).flatten ++ bs = uB big 8 emptyBits ++ (uB big 8 emptyBits ++ bs) := by simp [wd, List.replicate]
        rw [e] at h
        exact h)).mono ?_
      rintro e w' ⟨rfl, h1, h2⟩
      exact ⟨_, _, _, _, _, _, rfl, ⟨0, 0, 0, 0, 0, false, rfl, by omega, by omega, ⟨by decide, by decide, by decide, by decide⟩, by simp⟩, h1, h2⟩
    · refine (parsePoint_1e big (bs := bs) ⟨he, he, he⟩ nan_empty nan_empty (by
        have e : (List.replicate (wd 1) (uB big 8 emptyBits)).flatten ++ bs = uB big 8 emptyBits ++ (uB big 8 emptyBits ++ (uB big 8 emptyBits ++ bs)) := by simp [wd, List.replicate]
        rw [e] at h
        exact h)).mono ?_
      rintro e w' ⟨rfl, h1, h2⟩
      exact ⟨_, _, _, _, _, _, rfl, ⟨0, 0, 0, 0, 1, false, rfl, by omega, by omega, ⟨by decide, by decide, by decide, by decide⟩, by simp⟩, h1, h2⟩
    · refine (parsePoint_2e big (bs := bs) ⟨he, he, he⟩ nan_empty nan_empty (by
        have e : (List.replicate (wd 2) (uB big 8 emptyBits)).flatten ++ bs = uB big 8 emptyBits ++ (uB big 8 emptyBits ++ (uB big 8 emptyBits ++ bs)) := by simp [wd, List.replicate]
        rw [e] at h
        exact h)).mono ?_
      rintro e w' ⟨rfl, h1, h2⟩
      exact ⟨_, _, _, _, _, _, rfl, ⟨0, 0, 0, 0, 2, false, rfl, by omega, by omega, ⟨by decide, by decide, by decide, by decide⟩, by simp⟩, h1, h2⟩
    · refine (parsePoint_3e big (bs := bs) ⟨he, he, he, he⟩ nan_empty nan_empty (by
        have e : (List.replicate (wd 3) (uB big 8 emptyBits)).flatten ++ bs = uB big 8 emptyBits ++ (uB big 8 emptyBits ++ (uB big 8 emptyBits ++ (uB big 8 emptyBits ++ bs))) := by simp [wd, List.replicate]
        rw [e] at h
        exact h)).mono ?_
      rintro e w' ⟨rfl, h1, h2⟩
      exact ⟨_, _, _, _, _, _, rfl, ⟨0, 0, 0, 0, 3, false, rfl, by omega, by omega, ⟨by decide, by decide, by decide, by decide⟩, by simp⟩, h1, h2⟩
  · rw [if_neg hns] at h
    have hl := hw.resolve_left hns
    rcases hD with rfl | rfl | rfl | rfl
    · obtain ⟨x, y, rfl⟩ : ∃ x y, ns = [x, y] := by
        match ns, hl with
        | [x, y], _ => exact ⟨x, y, rfl⟩
      refine (parsePoint_0f big (bs := bs) ⟨hb x (by simp), hb y (by simp)⟩ (hn x (by simp)) (hn y (by simp)) (by
        have e : numsB big [x, y] ++ bs = uB big 8 x ++ (uB big 8 y ++ bs) := by simp [numsB]
        rw [e] at h
        exact h)).mono ?_
      rintro e w' ⟨rfl, h1, h2⟩
      exact ⟨_, _, _, _, _, _, rfl, ⟨x, y, 0, 0, 0, true, rfl, by omega, by omega, ⟨hb x (by simp), hb y (by simp), by decide, by decide⟩, rfl⟩, h1, h2⟩
    · obtain ⟨x, y, z, rfl⟩ : ∃ x y z, ns = [x, y, z] := by
        match ns, hl with
        | [x, y, z], _ => exact ⟨x, y, z, rfl⟩
      refine (parsePoint_1f big (bs := bs) ⟨hb x (by simp), hb y (by simp), hb z (by simp)⟩ (hn x (by simp)) (hn y (by simp)) (by
        have e : numsB big [x, y, z] ++ bs = uB big 8 x ++ (uB big 8 y ++ (uB big 8 z ++ bs)) := by simp [numsB]
        rw [e] at h
        exact h)).mono ?_
      rintro e w' ⟨rfl, h1, h2⟩
      exact ⟨_, _, _, _, _, _, rfl, ⟨x, y, z, 0, 1, true, rfl, by omega, by omega, ⟨hb x (by simp), hb y (by simp), hb z (by simp), by decide⟩, rfl⟩, h1, h2⟩
    · obtain ⟨x, y, m, rfl⟩ : ∃ x y m, ns = [x, y, m] := by
        match ns, hl with
        | [x, y, m], _ => exact ⟨x, y, m, rfl⟩
      refine (parsePoint_2f big (bs := bs) ⟨hb x (by simp), hb y (by simp), hb m (by simp)⟩ (hn x (by simp)) (hn y (by simp)) (by
        have e : numsB big [x, y, m] ++ bs = uB big 8 x ++ (uB big 8 y ++ (uB big 8 m ++ bs)) := by simp [numsB]
        rw [e] at h
        exact h)).mono ?_
      rintro e w' ⟨rfl, h1, h2⟩
      exact ⟨_, _, _, _, _, _, rfl, ⟨x, y, 0, m, 2, true, rfl, by omega, by omega, ⟨hb x (by simp), hb y (by simp), by decide, hb m (by simp)⟩, rfl⟩, h1, h2⟩
    · obtain ⟨x, y, z, m, rfl⟩ : ∃ x y z m, ns = [x, y, z, m] := by
        match ns, hl with
        | [x, y, z, m], _ => exact ⟨x, y, z, m, rfl⟩
      refine (parsePoint_3f big (bs := bs) ⟨hb x (by simp), hb y (by simp), hb z (by simp), hb m (by simp)⟩ (hn x (by simp)) (hn y (by simp)) (by
        have e : numsB big [x, y, z, m] ++ bs = uB big 8 x ++ (uB big 8 y ++ (uB big 8 z ++ (uB big 8 m ++ bs))) := by simp [numsB]
        rw [e] at h
        exact h)).mono ?_
      rintro e w' ⟨rfl, h1, h2⟩
      exact ⟨_, _, _, _, _, _, rfl, ⟨x, y, z, m, 3, true, rfl, by omega, by omega, ⟨hb x (by simp), hb y (by simp), hb z (by simp), hb m (by simp)⟩, rfl⟩, h1, h2⟩

end Go.Proofs.YtofdccmmagcamaaGreatDoor
