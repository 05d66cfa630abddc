import Derived.Test.YtofdccmmagcamaaGreatDoorMhP
import Derived.Test.YtofdccmmagcamaaGreatDoorBxO
/- The parser of bytes: whole geometries. -/
set_option maxHeartbeats 8000000
set_option linter.unusedSimpArgs false
set_option linter.unusedVariables false
namespace Go.Proofs.YtofdccmmagcamaaGreatDoor
open Go.RowKit

attribute [local go_sem] run_store_float

set_option maxRecDepth 100000 in
theorem root_pt {W : World} {B p : Nat} {bo bo' : Int} {no no' : Bool} {D : Int} {t : Gm} {a r : List Int} (hl0 : p < W.heap.size) (hB : B ≤ W.heap.size)
    (hc : ∀ w : World, Below W.heap.size W w → Calls Tryz.prog 179 #[.pointer (some ⟨p, 0, none⟩), .int .u8 D] w fun e w' => ∃ (x y z m : Nat) (q : Int) (f : Bool), e = .returned (.tuple #[.agg #[.float .f64 x, .float .f64 y, .float .f64 z, .float .f64 m, .int .u8 q, .bool f], .nilIface]) ∧ PtG w' (fun b => w.heap.size ≤ b) [.float .f64 x, .float .f64 y, .float .f64 z, .float .f64 m, .int .u8 q, .bool f] t ∧ Wp w' B p bo' no' r ∧ w.grownBy w' (some p)) :
    Calls Tryz.prog 144 #[.pointer (some ⟨p, 0, none⟩), .int .i64 1, .int .u8 D] W fun e w' => ∃ (q : Int) (T a : Nat), e = .returned (.tuple #[.agg #[.int .i64 q, .iface T (.pointer (some ⟨a, 0, none⟩))], .nilIface]) ∧ GeoG w' (fun b => W.heap.size ≤ b) [.int .i64 q, .iface T (.pointer (some ⟨a, 0, none⟩))] t ∧ Wp w' B p bo' no' r ∧ W.grownBy w' (some p) := by
  have hb1 : Below W.heap.size W (W.alloc (.cells #[.int .i64 0, .nilIface] 68)) := (Below.refl _ _).alloc (Nat.le_refl _) _
  have HC := Hd (hc _ hb1)
  have X0 := Hd (Blk.new W 68 #[.int .i64 0, .nilIface])
  have HB1 := Hd hb1
  clear hc hb1
  go_enter Tryz.func144, Tryz.ntmps144
  go_wp2_with fail
  refine HC.out.mono ?_
  rintro e w2 ⟨x, y, z, m, q, f, rfl, h2, hw2, g2⟩
  have s2 : W.heap.size + 1 ≤ w2.heap.size := by have := g2.size; simpa using this
  have al : Below w2.heap.size w2 (w2.alloc (.cells #[.float .f64 x, .float .f64 y, .float .f64 z, .float .f64 m, .int .u8 q, .bool f] 109)) := (Below.refl _ _).alloc (Nat.le_refl _) _
  have X3 := Hd ((X0.out.grown g2 (by intro e; injection e with e; omega)).alloc (.cells #[.float .f64 x, .float .f64 y, .float .f64 z, .float .f64 m, .int .u8 q, .bool f] 109))
  have W3 := Hd (hw2.keep al)
  have G3 := Hd (grown_under (grown_under (World.grownBy.trans (only_of_below HB1.out (some p)) g2) al (by omega)) (Below.refl W.heap.size _) (Nat.le_refl _))
  have H3 : Hid (PtG (w2.alloc (.cells #[.float .f64 x, .float .f64 y, .float .f64 z, .float .f64 m, .int .u8 q, .bool f] 109)) (fun b => W.heap.size + 1 ≤ b) [.float .f64 x, .float .f64 y, .float .f64 z, .float .f64 m, .int .u8 q, .bool f] t) := Hd (PtG.keeps _ _ _ _ _ _ h2 (fun b _ hl => al.block b hl) (fun b hb _ => by rw [World.size_alloc] at hb; exact hb))
  have hs3 : (w2.alloc (.cells #[.float .f64 x, .float .f64 y, .float .f64 z, .float .f64 m, .int .u8 q, .bool f] 109)).heap.size = w2.heap.size + 1 := World.size_alloc _ _
  clear h2 hw2 g2 al HB1 X0 HC
  go_wp2_with fail
  refine (AsPt x y z m q f _).mono ?_
  rintro e v9 ⟨a9, rfl, ha9, hb9, b9⟩
  have r9 := X3.out.below b9 X3.out.lt
  have HW9 := Hd (W3.out.keep b9)
  have G9 := Hd (G3.out.trans (only_of_below b9 _))
  have H9 := Hd (PtG.keeps _ v9 _ (fun b => W.heap.size + 1 ≤ b) _ _ H3.out (fun b _ hl => b9.block b hl) (fun b hb _ => hb))
  have HB9 := Hd hb9
  have e0 : (v9.setCell ⟨W.heap.size, 0, none⟩ (.int .i64 1)).cell? ⟨W.heap.size, 0, none⟩ = some (.int .i64 1) := by simpa using (r9.set_ 0 (.int .i64 1)).cell 0
  have e1 : ((v9.setCell ⟨W.heap.size, 0, none⟩ (.int .i64 1)).setCell ⟨W.heap.size, 1, none⟩ (.iface 128 (.pointer (some ⟨a9, 0, none⟩)))).cell? ⟨W.heap.size, 1, none⟩ = some (.iface 128 (.pointer (some ⟨a9, 0, none⟩))) := by simpa using ((r9.set_ 0 (.int .i64 1)).set_ 1 (.iface 128 (.pointer (some ⟨a9, 0, none⟩)))).cell 1
  have z0 := r9.frozen 0
  have z1 := r9.frozen 1
  have y0 := r9.cell 0
  have y1 := r9.cell 1
  simp at y0 y1
  clear r9 b9 hb9
  go_wp2
  refine bodyPost_ret (by simp [results, Tryz.results144, go_sem, e0, e1]; try rfl) rfl ?_
  have hbt := below_two v9 W.heap.size (.int .i64 1) (.iface 128 (.pointer (some ⟨a9, 0, none⟩)))
  have hoff : ∀ b, W.heap.size + 1 ≤ b → ((v9.setCell ⟨W.heap.size, 0, none⟩ (.int .i64 1)).setCell ⟨W.heap.size, 1, none⟩ (.iface 128 (.pointer (some ⟨a9, 0, none⟩)))).heap[b]? = v9.heap[b]? := fun b hb => by
    rw [Below.heap_setCell _ _ _ b (by show b ≠ W.heap.size; omega), Below.heap_setCell _ _ _ b (by show b ≠ W.heap.size; omega)]
  refine ⟨1, 128, a9, rfl, ?_, HW9.out.under hbt hl0, grown_under G9.out hbt (Nat.le_refl _)⟩
  rw [hs3] at ha9
  exact .leaf (.inl ⟨rfl, rfl, rfl, PtG.keeps _ _ _ _ _ _ H9.out (fun b hb _ => hoff b hb) (fun b hb _ => by omega)⟩) (by show W.heap.size ≤ a9; omega) ((hoff a9 (by omega)).trans HB9.out)

set_option maxRecDepth 100000 in
theorem root_ls {W : World} {B p : Nat} {bo bo' : Int} {no no' : Bool} {D : Int} {t : Gm} {a r : List Int} (hl0 : p < W.heap.size) (hB : B ≤ W.heap.size)
    (hc : ∀ w : World, Below W.heap.size W w → Calls Tryz.prog 180 #[.pointer (some ⟨p, 0, none⟩), .int .u8 D] w fun e w' => ∃ (A : Option Addr) (m c : Nat), e = .returned (.tuple #[.agg #[.int .u8 D, .slice A m c], .nilIface]) ∧ LsG w' (fun b => w.heap.size ≤ b) [.int .u8 D, .slice A m c] t ∧ Wp w' B p bo' no' r ∧ w.grownBy w' (some p)) :
    Calls Tryz.prog 144 #[.pointer (some ⟨p, 0, none⟩), .int .i64 2, .int .u8 D] W fun e w' => ∃ (q : Int) (T a : Nat), e = .returned (.tuple #[.agg #[.int .i64 q, .iface T (.pointer (some ⟨a, 0, none⟩))], .nilIface]) ∧ GeoG w' (fun b => W.heap.size ≤ b) [.int .i64 q, .iface T (.pointer (some ⟨a, 0, none⟩))] t ∧ Wp w' B p bo' no' r ∧ W.grownBy w' (some p) := by
  have hb1 : Below W.heap.size W (W.alloc (.cells #[.int .i64 0, .nilIface] 68)) := (Below.refl _ _).alloc (Nat.le_refl _) _
  have HC := Hd (hc _ hb1)
  have X0 := Hd (Blk.new W 68 #[.int .i64 0, .nilIface])
  have HB1 := Hd hb1
  clear hc hb1
  go_enter Tryz.func144, Tryz.ntmps144
  go_wp2_with fail
  refine HC.out.mono ?_
  rintro e w2 ⟨A, m, c, rfl, h2, hw2, g2⟩
  have s2 : W.heap.size + 1 ≤ w2.heap.size := by have := g2.size; simpa using this
  have al : Below w2.heap.size w2 (w2.alloc (.cells #[.int .u8 D, .slice A m c] 89)) := (Below.refl _ _).alloc (Nat.le_refl _) _
  have X3 := Hd ((X0.out.grown g2 (by intro e; injection e with e; omega)).alloc (.cells #[.int .u8 D, .slice A m c] 89))
  have W3 := Hd (hw2.keep al)
  have G3 := Hd (grown_under (grown_under (World.grownBy.trans (only_of_below HB1.out (some p)) g2) al (by omega)) (Below.refl W.heap.size _) (Nat.le_refl _))
  have H3 : Hid (LsG (w2.alloc (.cells #[.int .u8 D, .slice A m c] 89)) (fun b => W.heap.size + 1 ≤ b) [.int .u8 D, .slice A m c] t) := Hd (LsG.keeps _ _ _ _ _ _ h2 (fun b _ hl => al.block b hl) (fun b hb _ => by rw [World.size_alloc] at hb; exact hb))
  have hs3 : (w2.alloc (.cells #[.int .u8 D, .slice A m c] 89)).heap.size = w2.heap.size + 1 := World.size_alloc _ _
  clear h2 hw2 g2 al HB1 X0 HC
  go_wp2_with fail
  refine (AsLs D A m c _).mono ?_
  rintro e v9 ⟨a9, rfl, ha9, hb9, b9⟩
  have r9 := X3.out.below b9 X3.out.lt
  have HW9 := Hd (W3.out.keep b9)
  have G9 := Hd (G3.out.trans (only_of_below b9 _))
  have H9 := Hd (LsG.keeps _ v9 _ (fun b => W.heap.size + 1 ≤ b) _ _ H3.out (fun b _ hl => b9.block b hl) (fun b hb _ => hb))
  have HB9 := Hd hb9
  have e0 : (v9.setCell ⟨W.heap.size, 0, none⟩ (.int .i64 2)).cell? ⟨W.heap.size, 0, none⟩ = some (.int .i64 2) := by simpa using (r9.set_ 0 (.int .i64 2)).cell 0
  have e1 : ((v9.setCell ⟨W.heap.size, 0, none⟩ (.int .i64 2)).setCell ⟨W.heap.size, 1, none⟩ (.iface 129 (.pointer (some ⟨a9, 0, none⟩)))).cell? ⟨W.heap.size, 1, none⟩ = some (.iface 129 (.pointer (some ⟨a9, 0, none⟩))) := by simpa using ((r9.set_ 0 (.int .i64 2)).set_ 1 (.iface 129 (.pointer (some ⟨a9, 0, none⟩)))).cell 1
  have z0 := r9.frozen 0
  have z1 := r9.frozen 1
  have y0 := r9.cell 0
  have y1 := r9.cell 1
  simp at y0 y1
  clear r9 b9 hb9
  go_wp2
  refine bodyPost_ret (by simp [results, Tryz.results144, go_sem, e0, e1]; try rfl) rfl ?_
  have hbt := below_two v9 W.heap.size (.int .i64 2) (.iface 129 (.pointer (some ⟨a9, 0, none⟩)))
  have hoff : ∀ b, W.heap.size + 1 ≤ b → ((v9.setCell ⟨W.heap.size, 0, none⟩ (.int .i64 2)).setCell ⟨W.heap.size, 1, none⟩ (.iface 129 (.pointer (some ⟨a9, 0, none⟩)))).heap[b]? = v9.heap[b]? := fun b hb => by
    rw [Below.heap_setCell _ _ _ b (by show b ≠ W.heap.size; omega), Below.heap_setCell _ _ _ b (by show b ≠ W.heap.size; omega)]
  refine ⟨2, 129, a9, rfl, ?_, HW9.out.under hbt hl0, grown_under G9.out hbt (Nat.le_refl _)⟩
  rw [hs3] at ha9
  exact .leaf (.inr (.inl ⟨rfl, rfl, rfl, LsG.keeps _ _ _ _ _ _ H9.out (fun b hb _ => hoff b hb) (fun b hb _ => by omega)⟩)) (by show W.heap.size ≤ a9; omega) ((hoff a9 (by omega)).trans HB9.out)

set_option maxRecDepth 100000 in
theorem root_pg {W : World} {B p : Nat} {bo bo' : Int} {no no' : Bool} {D : Int} {t : Gm} {a r : List Int} (hl0 : p < W.heap.size) (hB : B ≤ W.heap.size)
    (hc : ∀ w : World, Below W.heap.size W w → Calls Tryz.prog 181 #[.pointer (some ⟨p, 0, none⟩), .int .u8 D] w fun e w' => ∃ (A : Option Addr) (m c : Nat) (q : Int), e = .returned (.tuple #[.agg #[.slice A m c, .int .u8 q], .nilIface]) ∧ PgG w' (fun b => w.heap.size ≤ b) [.slice A m c, .int .u8 q] t ∧ Wp w' B p bo' no' r ∧ w.grownBy w' (some p)) :
    Calls Tryz.prog 144 #[.pointer (some ⟨p, 0, none⟩), .int .i64 3, .int .u8 D] W fun e w' => ∃ (q : Int) (T a : Nat), e = .returned (.tuple #[.agg #[.int .i64 q, .iface T (.pointer (some ⟨a, 0, none⟩))], .nilIface]) ∧ GeoG w' (fun b => W.heap.size ≤ b) [.int .i64 q, .iface T (.pointer (some ⟨a, 0, none⟩))] t ∧ Wp w' B p bo' no' r ∧ W.grownBy w' (some p) := by
  have hb1 : Below W.heap.size W (W.alloc (.cells #[.int .i64 0, .nilIface] 68)) := (Below.refl _ _).alloc (Nat.le_refl _) _
  have HC := Hd (hc _ hb1)
  have X0 := Hd (Blk.new W 68 #[.int .i64 0, .nilIface])
  have HB1 := Hd hb1
  clear hc hb1
  go_enter Tryz.func144, Tryz.ntmps144
  go_wp2_with fail
  refine HC.out.mono ?_
  rintro e w2 ⟨A, m, c, q, rfl, h2, hw2, g2⟩
  have s2 : W.heap.size + 1 ≤ w2.heap.size := by have := g2.size; simpa using this
  have al : Below w2.heap.size w2 (w2.alloc (.cells #[.slice A m c, .int .u8 q] 60)) := (Below.refl _ _).alloc (Nat.le_refl _) _
  have X3 := Hd ((X0.out.grown g2 (by intro e; injection e with e; omega)).alloc (.cells #[.slice A m c, .int .u8 q] 60))
  have W3 := Hd (hw2.keep al)
  have G3 := Hd (grown_under (grown_under (World.grownBy.trans (only_of_below HB1.out (some p)) g2) al (by omega)) (Below.refl W.heap.size _) (Nat.le_refl _))
  have H3 : Hid (PgG (w2.alloc (.cells #[.slice A m c, .int .u8 q] 60)) (fun b => W.heap.size + 1 ≤ b) [.slice A m c, .int .u8 q] t) := Hd (PgG.keeps _ _ _ _ _ _ h2 (fun b _ hl => al.block b hl) (fun b hb _ => by rw [World.size_alloc] at hb; exact hb))
  have hs3 : (w2.alloc (.cells #[.slice A m c, .int .u8 q] 60)).heap.size = w2.heap.size + 1 := World.size_alloc _ _
  clear h2 hw2 g2 al HB1 X0 HC
  go_wp2_with fail
  refine (AsPg A m c q _).mono ?_
  rintro e v9 ⟨a9, rfl, ha9, hb9, b9⟩
  have r9 := X3.out.below b9 X3.out.lt
  have HW9 := Hd (W3.out.keep b9)
  have G9 := Hd (G3.out.trans (only_of_below b9 _))
  have H9 := Hd (PgG.keeps _ v9 _ (fun b => W.heap.size + 1 ≤ b) _ _ H3.out (fun b _ hl => b9.block b hl) (fun b hb _ => hb))
  have HB9 := Hd hb9
  have e0 : (v9.setCell ⟨W.heap.size, 0, none⟩ (.int .i64 3)).cell? ⟨W.heap.size, 0, none⟩ = some (.int .i64 3) := by simpa using (r9.set_ 0 (.int .i64 3)).cell 0
  have e1 : ((v9.setCell ⟨W.heap.size, 0, none⟩ (.int .i64 3)).setCell ⟨W.heap.size, 1, none⟩ (.iface 130 (.pointer (some ⟨a9, 0, none⟩)))).cell? ⟨W.heap.size, 1, none⟩ = some (.iface 130 (.pointer (some ⟨a9, 0, none⟩))) := by simpa using ((r9.set_ 0 (.int .i64 3)).set_ 1 (.iface 130 (.pointer (some ⟨a9, 0, none⟩)))).cell 1
  have z0 := r9.frozen 0
  have z1 := r9.frozen 1
  have y0 := r9.cell 0
  have y1 := r9.cell 1
  simp at y0 y1
  clear r9 b9 hb9
  go_wp2
  refine bodyPost_ret (by simp [results, Tryz.results144, go_sem, e0, e1]; try rfl) rfl ?_
  have hbt := below_two v9 W.heap.size (.int .i64 3) (.iface 130 (.pointer (some ⟨a9, 0, none⟩)))
  have hoff : ∀ b, W.heap.size + 1 ≤ b → ((v9.setCell ⟨W.heap.size, 0, none⟩ (.int .i64 3)).setCell ⟨W.heap.size, 1, none⟩ (.iface 130 (.pointer (some ⟨a9, 0, none⟩)))).heap[b]? = v9.heap[b]? := fun b hb => by
    rw [Below.heap_setCell _ _ _ b (by show b ≠ W.heap.size; omega), Below.heap_setCell _ _ _ b (by show b ≠ W.heap.size; omega)]
  refine ⟨3, 130, a9, rfl, ?_, HW9.out.under hbt hl0, grown_under G9.out hbt (Nat.le_refl _)⟩
  rw [hs3] at ha9
  exact .leaf (.inr (.inr (.inl ⟨rfl, rfl, rfl, PgG.keeps _ _ _ _ _ _ H9.out (fun b hb _ => hoff b hb) (fun b hb _ => by omega)⟩))) (by show W.heap.size ≤ a9; omega) ((hoff a9 (by omega)).trans HB9.out)

set_option maxRecDepth 100000 in
theorem root_mp {W : World} {B p : Nat} {bo bo' : Int} {no no' : Bool} {D : Int} {t : Gm} {a r : List Int} (hl0 : p < W.heap.size) (hB : B ≤ W.heap.size)
    (hc : ∀ w : World, Below W.heap.size W w → Calls Tryz.prog 182 #[.pointer (some ⟨p, 0, none⟩), .int .u8 D] w fun e w' => ∃ (A : Option Addr) (m c : Nat) (q : Int), e = .returned (.tuple #[.agg #[.slice A m c, .int .u8 q], .nilIface]) ∧ MpG w' (fun b => w.heap.size ≤ b) [.slice A m c, .int .u8 q] t ∧ Wp w' B p bo' no' r ∧ w.grownBy w' (some p)) :
    Calls Tryz.prog 144 #[.pointer (some ⟨p, 0, none⟩), .int .i64 4, .int .u8 D] W fun e w' => ∃ (q : Int) (T a : Nat), e = .returned (.tuple #[.agg #[.int .i64 q, .iface T (.pointer (some ⟨a, 0, none⟩))], .nilIface]) ∧ GeoG w' (fun b => W.heap.size ≤ b) [.int .i64 q, .iface T (.pointer (some ⟨a, 0, none⟩))] t ∧ Wp w' B p bo' no' r ∧ W.grownBy w' (some p) := by
  have hb1 : Below W.heap.size W (W.alloc (.cells #[.int .i64 0, .nilIface] 68)) := (Below.refl _ _).alloc (Nat.le_refl _) _
  have HC := Hd (hc _ hb1)
  have X0 := Hd (Blk.new W 68 #[.int .i64 0, .nilIface])
  have HB1 := Hd hb1
  clear hc hb1
  go_enter Tryz.func144, Tryz.ntmps144
  go_wp2_with fail
  refine HC.out.mono ?_
  rintro e w2 ⟨A, m, c, q, rfl, h2, hw2, g2⟩
  have s2 : W.heap.size + 1 ≤ w2.heap.size := by have := g2.size; simpa using this
  have al : Below w2.heap.size w2 (w2.alloc (.cells #[.slice A m c, .int .u8 q] 114)) := (Below.refl _ _).alloc (Nat.le_refl _) _
  have X3 := Hd ((X0.out.grown g2 (by intro e; injection e with e; omega)).alloc (.cells #[.slice A m c, .int .u8 q] 114))
  have W3 := Hd (hw2.keep al)
  have G3 := Hd (grown_under (grown_under (World.grownBy.trans (only_of_below HB1.out (some p)) g2) al (by omega)) (Below.refl W.heap.size _) (Nat.le_refl _))
  have H3 : Hid (MpG (w2.alloc (.cells #[.slice A m c, .int .u8 q] 114)) (fun b => W.heap.size + 1 ≤ b) [.slice A m c, .int .u8 q] t) := Hd (MpG.keeps _ _ _ _ _ _ h2 (fun b _ hl => al.block b hl) (fun b hb _ => by rw [World.size_alloc] at hb; exact hb))
  have hs3 : (w2.alloc (.cells #[.slice A m c, .int .u8 q] 114)).heap.size = w2.heap.size + 1 := World.size_alloc _ _
  clear h2 hw2 g2 al HB1 X0 HC
  go_wp2_with fail
  refine (AsMp A m c q _).mono ?_
  rintro e v9 ⟨a9, rfl, ha9, hb9, b9⟩
  have r9 := X3.out.below b9 X3.out.lt
  have HW9 := Hd (W3.out.keep b9)
  have G9 := Hd (G3.out.trans (only_of_below b9 _))
  have H9 := Hd (MpG.keeps _ v9 _ (fun b => W.heap.size + 1 ≤ b) _ _ H3.out (fun b _ hl => b9.block b hl) (fun b hb _ => hb))
  have HB9 := Hd hb9
  have e0 : (v9.setCell ⟨W.heap.size, 0, none⟩ (.int .i64 4)).cell? ⟨W.heap.size, 0, none⟩ = some (.int .i64 4) := by simpa using (r9.set_ 0 (.int .i64 4)).cell 0
  have e1 : ((v9.setCell ⟨W.heap.size, 0, none⟩ (.int .i64 4)).setCell ⟨W.heap.size, 1, none⟩ (.iface 131 (.pointer (some ⟨a9, 0, none⟩)))).cell? ⟨W.heap.size, 1, none⟩ = some (.iface 131 (.pointer (some ⟨a9, 0, none⟩))) := by simpa using ((r9.set_ 0 (.int .i64 4)).set_ 1 (.iface 131 (.pointer (some ⟨a9, 0, none⟩)))).cell 1
  have z0 := r9.frozen 0
  have z1 := r9.frozen 1
  have y0 := r9.cell 0
  have y1 := r9.cell 1
  simp at y0 y1
  clear r9 b9 hb9
  go_wp2
  refine bodyPost_ret (by simp [results, Tryz.results144, go_sem, e0, e1]; try rfl) rfl ?_
  have hbt := below_two v9 W.heap.size (.int .i64 4) (.iface 131 (.pointer (some ⟨a9, 0, none⟩)))
  have hoff : ∀ b, W.heap.size + 1 ≤ b → ((v9.setCell ⟨W.heap.size, 0, none⟩ (.int .i64 4)).setCell ⟨W.heap.size, 1, none⟩ (.iface 131 (.pointer (some ⟨a9, 0, none⟩)))).heap[b]? = v9.heap[b]? := fun b hb => by
    rw [Below.heap_setCell _ _ _ b (by show b ≠ W.heap.size; omega), Below.heap_setCell _ _ _ b (by show b ≠ W.heap.size; omega)]
  refine ⟨4, 131, a9, rfl, ?_, HW9.out.under hbt hl0, grown_under G9.out hbt (Nat.le_refl _)⟩
  rw [hs3] at ha9
  exact .leaf (.inr (.inr (.inr (.inl ⟨rfl, rfl, rfl, MpG.keeps _ _ _ _ _ _ H9.out (fun b hb _ => hoff b hb) (fun b hb _ => by omega)⟩)))) (by show W.heap.size ≤ a9; omega) ((hoff a9 (by omega)).trans HB9.out)

set_option maxRecDepth 100000 in
theorem root_ml {W : World} {B p : Nat} {bo bo' : Int} {no no' : Bool} {D : Int} {t : Gm} {a r : List Int} (hl0 : p < W.heap.size) (hB : B ≤ W.heap.size)
    (hc : ∀ w : World, Below W.heap.size W w → Calls Tryz.prog 183 #[.pointer (some ⟨p, 0, none⟩), .int .u8 D] w fun e w' => ∃ (A : Option Addr) (m c : Nat) (q : Int), e = .returned (.tuple #[.agg #[.slice A m c, .int .u8 q], .nilIface]) ∧ MlG w' (fun b => w.heap.size ≤ b) [.slice A m c, .int .u8 q] t ∧ Wp w' B p bo' no' r ∧ w.grownBy w' (some p)) :
    Calls Tryz.prog 144 #[.pointer (some ⟨p, 0, none⟩), .int .i64 5, .int .u8 D] W fun e w' => ∃ (q : Int) (T a : Nat), e = .returned (.tuple #[.agg #[.int .i64 q, .iface T (.pointer (some ⟨a, 0, none⟩))], .nilIface]) ∧ GeoG w' (fun b => W.heap.size ≤ b) [.int .i64 q, .iface T (.pointer (some ⟨a, 0, none⟩))] t ∧ Wp w' B p bo' no' r ∧ W.grownBy w' (some p) := by
  have hb1 : Below W.heap.size W (W.alloc (.cells #[.int .i64 0, .nilIface] 68)) := (Below.refl _ _).alloc (Nat.le_refl _) _
  have HC := Hd (hc _ hb1)
  have X0 := Hd (Blk.new W 68 #[.int .i64 0, .nilIface])
  have HB1 := Hd hb1
  clear hc hb1
  go_enter Tryz.func144, Tryz.ntmps144
  go_wp2_with fail
  refine HC.out.mono ?_
  rintro e w2 ⟨A, m, c, q, rfl, h2, hw2, g2⟩
  have s2 : W.heap.size + 1 ≤ w2.heap.size := by have := g2.size; simpa using this
  have al : Below w2.heap.size w2 (w2.alloc (.cells #[.slice A m c, .int .u8 q] 117)) := (Below.refl _ _).alloc (Nat.le_refl _) _
  have X3 := Hd ((X0.out.grown g2 (by intro e; injection e with e; omega)).alloc (.cells #[.slice A m c, .int .u8 q] 117))
  have W3 := Hd (hw2.keep al)
  have G3 := Hd (grown_under (grown_under (World.grownBy.trans (only_of_below HB1.out (some p)) g2) al (by omega)) (Below.refl W.heap.size _) (Nat.le_refl _))
  have H3 : Hid (MlG (w2.alloc (.cells #[.slice A m c, .int .u8 q] 117)) (fun b => W.heap.size + 1 ≤ b) [.slice A m c, .int .u8 q] t) := Hd (MlG.keeps _ _ _ _ _ _ h2 (fun b _ hl => al.block b hl) (fun b hb _ => by rw [World.size_alloc] at hb; exact hb))
  have hs3 : (w2.alloc (.cells #[.slice A m c, .int .u8 q] 117)).heap.size = w2.heap.size + 1 := World.size_alloc _ _
  clear h2 hw2 g2 al HB1 X0 HC
  go_wp2_with fail
  refine (AsMl A m c q _).mono ?_
  rintro e v9 ⟨a9, rfl, ha9, hb9, b9⟩
  have r9 := X3.out.below b9 X3.out.lt
  have HW9 := Hd (W3.out.keep b9)
  have G9 := Hd (G3.out.trans (only_of_below b9 _))
  have H9 := Hd (MlG.keeps _ v9 _ (fun b => W.heap.size + 1 ≤ b) _ _ H3.out (fun b _ hl => b9.block b hl) (fun b hb _ => hb))
  have HB9 := Hd hb9
  have e0 : (v9.setCell ⟨W.heap.size, 0, none⟩ (.int .i64 5)).cell? ⟨W.heap.size, 0, none⟩ = some (.int .i64 5) := by simpa using (r9.set_ 0 (.int .i64 5)).cell 0
  have e1 : ((v9.setCell ⟨W.heap.size, 0, none⟩ (.int .i64 5)).setCell ⟨W.heap.size, 1, none⟩ (.iface 132 (.pointer (some ⟨a9, 0, none⟩)))).cell? ⟨W.heap.size, 1, none⟩ = some (.iface 132 (.pointer (some ⟨a9, 0, none⟩))) := by simpa using ((r9.set_ 0 (.int .i64 5)).set_ 1 (.iface 132 (.pointer (some ⟨a9, 0, none⟩)))).cell 1
  have z0 := r9.frozen 0
  have z1 := r9.frozen 1
  have y0 := r9.cell 0
  have y1 := r9.cell 1
  simp at y0 y1
  clear r9 b9 hb9
  go_wp2
  refine bodyPost_ret (by simp [results, Tryz.results144, go_sem, e0, e1]; try rfl) rfl ?_
  have hbt := below_two v9 W.heap.size (.int .i64 5) (.iface 132 (.pointer (some ⟨a9, 0, none⟩)))
  have hoff : ∀ b, W.heap.size + 1 ≤ b → ((v9.setCell ⟨W.heap.size, 0, none⟩ (.int .i64 5)).setCell ⟨W.heap.size, 1, none⟩ (.iface 132 (.pointer (some ⟨a9, 0, none⟩)))).heap[b]? = v9.heap[b]? := fun b hb => by
    rw [Below.heap_setCell _ _ _ b (by show b ≠ W.heap.size; omega), Below.heap_setCell _ _ _ b (by show b ≠ W.heap.size; omega)]
  refine ⟨5, 132, a9, rfl, ?_, HW9.out.under hbt hl0, grown_under G9.out hbt (Nat.le_refl _)⟩
  rw [hs3] at ha9
  exact .leaf (.inr (.inr (.inr (.inr (.inl ⟨rfl, rfl, rfl, MlG.keeps _ _ _ _ _ _ H9.out (fun b hb _ => hoff b hb) (fun b hb _ => by omega)⟩))))) (by show W.heap.size ≤ a9; omega) ((hoff a9 (by omega)).trans HB9.out)

set_option maxRecDepth 100000 in
theorem root_my {W : World} {B p : Nat} {bo bo' : Int} {no no' : Bool} {D : Int} {t : Gm} {a r : List Int} (hl0 : p < W.heap.size) (hB : B ≤ W.heap.size)
    (hc : ∀ w : World, Below W.heap.size W w → Calls Tryz.prog 184 #[.pointer (some ⟨p, 0, none⟩), .int .u8 D] w fun e w' => ∃ (A : Option Addr) (m c : Nat) (q : Int), e = .returned (.tuple #[.agg #[.slice A m c, .int .u8 q], .nilIface]) ∧ MyG w' (fun b => w.heap.size ≤ b) [.slice A m c, .int .u8 q] t ∧ Wp w' B p bo' no' r ∧ w.grownBy w' (some p)) :
    Calls Tryz.prog 144 #[.pointer (some ⟨p, 0, none⟩), .int .i64 6, .int .u8 D] W fun e w' => ∃ (q : Int) (T a : Nat), e = .returned (.tuple #[.agg #[.int .i64 q, .iface T (.pointer (some ⟨a, 0, none⟩))], .nilIface]) ∧ GeoG w' (fun b => W.heap.size ≤ b) [.int .i64 q, .iface T (.pointer (some ⟨a, 0, none⟩))] t ∧ Wp w' B p bo' no' r ∧ W.grownBy w' (some p) := by
  have hb1 : Below W.heap.size W (W.alloc (.cells #[.int .i64 0, .nilIface] 68)) := (Below.refl _ _).alloc (Nat.le_refl _) _
  have HC := Hd (hc _ hb1)
  have X0 := Hd (Blk.new W 68 #[.int .i64 0, .nilIface])
  have HB1 := Hd hb1
  clear hc hb1
  go_enter Tryz.func144, Tryz.ntmps144
  go_wp2_with fail
  refine HC.out.mono ?_
  rintro e w2 ⟨A, m, c, q, rfl, h2, hw2, g2⟩
  have s2 : W.heap.size + 1 ≤ w2.heap.size := by have := g2.size; simpa using this
  have al : Below w2.heap.size w2 (w2.alloc (.cells #[.slice A m c, .int .u8 q] 121)) := (Below.refl _ _).alloc (Nat.le_refl _) _
  have X3 := Hd ((X0.out.grown g2 (by intro e; injection e with e; omega)).alloc (.cells #[.slice A m c, .int .u8 q] 121))
  have W3 := Hd (hw2.keep al)
  have G3 := Hd (grown_under (grown_under (World.grownBy.trans (only_of_below HB1.out (some p)) g2) al (by omega)) (Below.refl W.heap.size _) (Nat.le_refl _))
  have H3 : Hid (MyG (w2.alloc (.cells #[.slice A m c, .int .u8 q] 121)) (fun b => W.heap.size + 1 ≤ b) [.slice A m c, .int .u8 q] t) := Hd (MyG.keeps _ _ _ _ _ _ h2 (fun b _ hl => al.block b hl) (fun b hb _ => by rw [World.size_alloc] at hb; exact hb))
  have hs3 : (w2.alloc (.cells #[.slice A m c, .int .u8 q] 121)).heap.size = w2.heap.size + 1 := World.size_alloc _ _
  clear h2 hw2 g2 al HB1 X0 HC
  go_wp2_with fail
  refine (AsMy A m c q _).mono ?_
  rintro e v9 ⟨a9, rfl, ha9, hb9, b9⟩
  have r9 := X3.out.below b9 X3.out.lt
  have HW9 := Hd (W3.out.keep b9)
  have G9 := Hd (G3.out.trans (only_of_below b9 _))
  have H9 := Hd (MyG.keeps _ v9 _ (fun b => W.heap.size + 1 ≤ b) _ _ H3.out (fun b _ hl => b9.block b hl) (fun b hb _ => hb))
  have HB9 := Hd hb9
  have e0 : (v9.setCell ⟨W.heap.size, 0, none⟩ (.int .i64 6)).cell? ⟨W.heap.size, 0, none⟩ = some (.int .i64 6) := by simpa using (r9.set_ 0 (.int .i64 6)).cell 0
  have e1 : ((v9.setCell ⟨W.heap.size, 0, none⟩ (.int .i64 6)).setCell ⟨W.heap.size, 1, none⟩ (.iface 133 (.pointer (some ⟨a9, 0, none⟩)))).cell? ⟨W.heap.size, 1, none⟩ = some (.iface 133 (.pointer (some ⟨a9, 0, none⟩))) := by simpa using ((r9.set_ 0 (.int .i64 6)).set_ 1 (.iface 133 (.pointer (some ⟨a9, 0, none⟩)))).cell 1
  have z0 := r9.frozen 0
  have z1 := r9.frozen 1
  have y0 := r9.cell 0
  have y1 := r9.cell 1
  simp at y0 y1
  clear r9 b9 hb9
  go_wp2
  refine bodyPost_ret (by simp [results, Tryz.results144, go_sem, e0, e1]; try rfl) rfl ?_
  have hbt := below_two v9 W.heap.size (.int .i64 6) (.iface 133 (.pointer (some ⟨a9, 0, none⟩)))
  have hoff : ∀ b, W.heap.size + 1 ≤ b → ((v9.setCell ⟨W.heap.size, 0, none⟩ (.int .i64 6)).setCell ⟨W.heap.size, 1, none⟩ (.iface 133 (.pointer (some ⟨a9, 0, none⟩)))).heap[b]? = v9.heap[b]? := fun b hb => by
    rw [Below.heap_setCell _ _ _ b (by show b ≠ W.heap.size; omega), Below.heap_setCell _ _ _ b (by show b ≠ W.heap.size; omega)]
  refine ⟨6, 133, a9, rfl, ?_, HW9.out.under hbt hl0, grown_under G9.out hbt (Nat.le_refl _)⟩
  rw [hs3] at ha9
  exact .leaf (.inr (.inr (.inr (.inr (.inr (⟨rfl, rfl, rfl, MyG.keeps _ _ _ _ _ _ H9.out (fun b hb _ => hoff b hb) (fun b hb _ => by omega)⟩)))))) (by show W.heap.size ≤ a9; omega) ((hoff a9 (by omega)).trans HB9.out)

set_option maxRecDepth 100000 in
theorem root_gc {W : World} {B p : Nat} {bo bo' : Int} {no no' : Bool} {D : Int} {t : Gm} {a r : List Int} (hl0 : p < W.heap.size) (hB : B ≤ W.heap.size)
    (hc : ∀ w : World, Below W.heap.size W w → Calls Tryz.prog 185 #[.pointer (some ⟨p, 0, none⟩), .int .u8 D] w fun e w' => ∃ (A : Option Addr) (m c : Nat) (q : Int), e = .returned (.tuple #[.agg #[.slice A m c, .int .u8 q], .nilIface]) ∧ GcG w' (fun b => w.heap.size ≤ b) [.slice A m c, .int .u8 q] t ∧ Wp w' B p bo' no' r ∧ w.grownBy w' (some p)) :
    Calls Tryz.prog 144 #[.pointer (some ⟨p, 0, none⟩), .int .i64 0, .int .u8 D] W fun e w' => ∃ (q : Int) (T a : Nat), e = .returned (.tuple #[.agg #[.int .i64 q, .iface T (.pointer (some ⟨a, 0, none⟩))], .nilIface]) ∧ GeoG w' (fun b => W.heap.size ≤ b) [.int .i64 q, .iface T (.pointer (some ⟨a, 0, none⟩))] t ∧ Wp w' B p bo' no' r ∧ W.grownBy w' (some p) := by
  have hb1 : Below W.heap.size W (W.alloc (.cells #[.int .i64 0, .nilIface] 68)) := (Below.refl _ _).alloc (Nat.le_refl _) _
  have HC := Hd (hc _ hb1)
  have X0 := Hd (Blk.new W 68 #[.int .i64 0, .nilIface])
  have HB1 := Hd hb1
  clear hc hb1
  go_enter Tryz.func144, Tryz.ntmps144
  go_wp2_with fail
  refine HC.out.mono ?_
  rintro e w2 ⟨A, m, c, q, rfl, h2, hw2, g2⟩
  have s2 : W.heap.size + 1 ≤ w2.heap.size := by have := g2.size; simpa using this
  have al : Below w2.heap.size w2 (w2.alloc (.cells #[.slice A m c, .int .u8 q] 125)) := (Below.refl _ _).alloc (Nat.le_refl _) _
  have X3 := Hd ((X0.out.grown g2 (by intro e; injection e with e; omega)).alloc (.cells #[.slice A m c, .int .u8 q] 125))
  have W3 := Hd (hw2.keep al)
  have G3 := Hd (grown_under (grown_under (World.grownBy.trans (only_of_below HB1.out (some p)) g2) al (by omega)) (Below.refl W.heap.size _) (Nat.le_refl _))
  have H3 : Hid (GcG (w2.alloc (.cells #[.slice A m c, .int .u8 q] 125)) (fun b => W.heap.size + 1 ≤ b) [.slice A m c, .int .u8 q] t) := Hd (GcG.keeps _ _ _ _ _ _ h2 (fun b _ hl => al.block b hl) (fun b hb _ => by rw [World.size_alloc] at hb; exact hb))
  have hs3 : (w2.alloc (.cells #[.slice A m c, .int .u8 q] 125)).heap.size = w2.heap.size + 1 := World.size_alloc _ _
  clear h2 hw2 g2 al HB1 X0 HC
  go_wp2_with fail
  refine (AsGc A m c q _).mono ?_
  rintro e v9 ⟨a9, rfl, ha9, hb9, b9⟩
  have r9 := X3.out.below b9 X3.out.lt
  have HW9 := Hd (W3.out.keep b9)
  have G9 := Hd (G3.out.trans (only_of_below b9 _))
  have H9 := Hd (GcG.keeps _ v9 _ (fun b => W.heap.size + 1 ≤ b) _ _ H3.out (fun b _ hl => b9.block b hl) (fun b hb _ => hb))
  have HB9 := Hd hb9
  have e0 : (v9.setCell ⟨W.heap.size, 0, none⟩ (.int .i64 0)).cell? ⟨W.heap.size, 0, none⟩ = some (.int .i64 0) := by simpa using (r9.set_ 0 (.int .i64 0)).cell 0
  have e1 : ((v9.setCell ⟨W.heap.size, 0, none⟩ (.int .i64 0)).setCell ⟨W.heap.size, 1, none⟩ (.iface 127 (.pointer (some ⟨a9, 0, none⟩)))).cell? ⟨W.heap.size, 1, none⟩ = some (.iface 127 (.pointer (some ⟨a9, 0, none⟩))) := by simpa using ((r9.set_ 0 (.int .i64 0)).set_ 1 (.iface 127 (.pointer (some ⟨a9, 0, none⟩)))).cell 1
  have z0 := r9.frozen 0
  have z1 := r9.frozen 1
  have y0 := r9.cell 0
  have y1 := r9.cell 1
  simp at y0 y1
  clear r9 b9 hb9
  go_wp2
  refine bodyPost_ret (by simp [results, Tryz.results144, go_sem, e0, e1]; try rfl) rfl ?_
  have hbt := below_two v9 W.heap.size (.int .i64 0) (.iface 127 (.pointer (some ⟨a9, 0, none⟩)))
  have hoff : ∀ b, W.heap.size + 1 ≤ b → ((v9.setCell ⟨W.heap.size, 0, none⟩ (.int .i64 0)).setCell ⟨W.heap.size, 1, none⟩ (.iface 127 (.pointer (some ⟨a9, 0, none⟩)))).heap[b]? = v9.heap[b]? := fun b hb => by
    rw [Below.heap_setCell _ _ _ b (by show b ≠ W.heap.size; omega), Below.heap_setCell _ _ _ b (by show b ≠ W.heap.size; omega)]
  refine ⟨0, 127, a9, rfl, ?_, HW9.out.under hbt hl0, grown_under G9.out hbt (Nat.le_refl _)⟩
  rw [hs3] at ha9
  exact GeoG.of_gc (GcG.keeps _ _ _ _ _ _ H9.out (fun b hb _ => hoff b hb) (fun b hb _ => by omega)) (by show W.heap.size ≤ a9; omega) ((hoff a9 (by omega)).trans HB9.out)

end Go.Proofs.YtofdccmmagcamaaGreatDoor

/- The parser of bytes reads every well formed tree. -/
set_option maxHeartbeats 8000000
set_option linter.unusedSimpArgs false
set_option linter.unusedVariables false
namespace Go.Proofs.YtofdccmmagcamaaGreatDoor
open Go.RowKit

attribute [local go_sem] run_store_float

set_option maxRecDepth 100000 in
theorem run_of {W : World} {B p : Nat} {bo : Int} {no : Bool} (big : Bool) {k D : Int} {t : Gm} {body rest : List Int} (k0 : 0 ≤ k) (k1 : k ≤ 6) (d0 : 0 ≤ D) (d1 : D ≤ 3) (hB : B ≤ W.heap.size)
    (hroot : ∀ w : World, W.heap.size ≤ w.heap.size → p < w.heap.size → Wp w B p (if big then 0 else 1) (!big) (body ++ rest) → Calls Tryz.prog 144 #[.pointer (some ⟨p, 0, none⟩), .int .i64 k, .int .u8 D] w fun e w' => ∃ (q : Int) (T a : Nat), e = .returned (.tuple #[.agg #[.int .i64 q, .iface T (.pointer (some ⟨a, 0, none⟩))], .nilIface]) ∧ GeoG w' (fun b => w.heap.size ≤ b) [.int .i64 q, .iface T (.pointer (some ⟨a, 0, none⟩))] t ∧ Wp w' B p (if big then 0 else 1) (!big) rest ∧ w.grownBy w' (some p))
    (h : Wp W B p bo no ((if big then 0 else 1) :: (uB big 4 (codeK k + 1000 * D).toNat ++ (body ++ rest)))) :
    Calls Tryz.prog 100 #[.pointer (some ⟨p, 0, none⟩)] W fun e w' => ∃ (q : Int) (T a : Nat), e = .returned (.tuple #[.agg #[.int .i64 q, .iface T (.pointer (some ⟨a, 0, none⟩))], .nilIface]) ∧ GeoG w' (fun b => W.heap.size ≤ b) [.int .i64 q, .iface T (.pointer (some ⟨a, 0, none⟩))] t ∧ (∃ (bo' : Int) (no' : Bool), Wp w' B p bo' no' rest) ∧ W.grownBy w' (some p) := by
  have hl := h.lt
  have hb1 : Below W.heap.size W (W.alloc (.cells #[.int .i64 0, .nilIface] 68)) := (Below.refl _ _).alloc (Nat.le_refl _) _
  have HO := Hd (parseByteOrder_any big (h.keep hb1))
  have X0 := Hd (Blk.new W 68 #[.int .i64 0, .nilIface])
  have HB1 := Hd hb1
  have HT : Hid (∀ (w : World) (no : Bool), Wp w B p (if big then 0 else 1) no (uB big 4 (codeK k + 1000 * D).toNat ++ (body ++ rest)) → Calls Tryz.prog 143 #[.pointer (some ⟨p, 0, none⟩)] w fun e w' => e = .returned (.tuple #[.int .i64 k, .int .u8 D, .nilIface]) ∧ Wp w' B p (if big then 0 else 1) no (body ++ rest) ∧ w.grownBy w' (some p)) := Hd (fun w no hw => parseType_any big k0 k1 d0 d1 hw)
  have HR := Hd hroot
  clear h hb1 hroot
  generalize (if big = true then (0 : Int) else 1) = bo' at *
  generalize (!big) = no' at *
  go_enter Tryz.func100, Tryz.ntmps100
  go_wp2_with fail
  refine HO.out.mono ?_
  rintro e w2 ⟨rfl, h2, g2⟩
  have HC2 := Hd (HT.out _ _ h2)
  have G2 := Hd g2
  clear h2 g2
  go_wp2_with fail
  refine HC2.out.mono ?_
  rintro e w3 ⟨rfl, h3, g3⟩
  have g13 := G2.out.trans g3
  have s3 : W.heap.size + 1 ≤ w3.heap.size := by have := g13.size; simpa using this
  have X3 := Hd (X0.out.grown g13 (by intro e; injection e with e; omega))
  have G3 := Hd (World.grownBy.trans (only_of_below HB1.out (some p)) g13)
  have HC3 := Hd (HR.out w3 (by omega) (by omega) h3)
  clear h3 g3 g13 X0 HB1 HO HT HR HC2 G2
  go_wp2_with fail
  refine HC3.out.mono ?_
  rintro e v9 ⟨q, T, a, rfl, h9, hw9, g9⟩
  have r9 := X3.out.grown g9 (by intro e; injection e with e; omega)
  have HW9 := Hd hw9
  have G9 := Hd (G3.out.trans g9)
  have H9 := Hd h9
  have e0 : (v9.setCell ⟨W.heap.size, 0, none⟩ (.int .i64 q)).cell? ⟨W.heap.size, 0, none⟩ = some (.int .i64 q) := by simpa using (r9.set_ 0 (.int .i64 q)).cell 0
  have e1 : ((v9.setCell ⟨W.heap.size, 0, none⟩ (.int .i64 q)).setCell ⟨W.heap.size, 1, none⟩ (.iface T (.pointer (some ⟨a, 0, none⟩)))).cell? ⟨W.heap.size, 1, none⟩ = some (.iface T (.pointer (some ⟨a, 0, none⟩))) := by simpa using ((r9.set_ 0 (.int .i64 q)).set_ 1 (.iface T (.pointer (some ⟨a, 0, none⟩)))).cell 1
  have z0 := r9.frozen 0
  have z1 := r9.frozen 1
  have y0 := r9.cell 0
  have y1 := r9.cell 1
  simp at y0 y1
  clear r9 h9 hw9 g9
  go_wp2
  refine bodyPost_ret (by simp [results, Tryz.results100, go_sem, e0, e1]; try rfl) rfl ?_
  have hbt := below_two v9 W.heap.size (.int .i64 q) (.iface T (.pointer (some ⟨a, 0, none⟩)))
  refine ⟨q, T, a, rfl, GeoG.keeps _ _ _ _ _ _ H9.out (fun b hb _ => ?_) (fun b hb _ => by omega), ⟨_, _, HW9.out.under hbt hl⟩, grown_under G9.out hbt (Nat.le_refl _)⟩
  rw [Below.heap_setCell _ _ _ b (by show b ≠ W.heap.size; omega), Below.heap_setCell _ _ _ b (by show b ≠ W.heap.size; omega)]

theorem run_all {D : Int} (d0 : 0 ≤ D) (d1 : D ≤ 3) {t : Gm} (hw : Wf D t) : NumT t → NoN t → t.np ≤ 100000 → RunAt t := by
  induction hw with
  | @pt ns hns =>
    intro hn hnn hs W B p bo no os rest h hB
    obtain ⟨hb, -⟩ : (∀ b ∈ ns, b < 18446744073709551616) ∧ True := by
      cases hn with
      | mk a b => exact ⟨a, trivial⟩
    have hx := hnn.nums.1
    rw [wkbT_mk] at h
    refine run_of (bo := bo) (no := no) (os.headD false) (k := 1) (D := D) (body := if ns = [] then (List.replicate (wd D) (uB (os.headD false) 8 emptyBits)).flatten else numsB (os.headD false) ns) (rest := rest) (by decide) (by decide) d0 d1 hB (fun w hs1 hl1 hw1 => root_pt (a := []) (bo := 0) (no := false) hl1 (by omega) (fun v hv => parsePoint_any (os.headD false) d0 d1 hns hb hx (hw1.keep hv))) ?_
    have e : (if (1 : Int) = 1 then ([if os.headD false then (0 : Int) else 1] ++ uB (os.headD false) 4 (codeK 1 + 1000 * D).toNat ++ (if ns = [] then (List.replicate (wd D) (uB (os.headD false) 8 emptyBits)).flatten else numsB (os.headD false) ns), os.tail) else ([], os)).1 ++ rest = (if os.headD false then (0 : Int) else 1) :: (uB (os.headD false) 4 (codeK 1 + 1000 * D).toNat ++ ((if ns = [] then (List.replicate (wd D) (uB (os.headD false) 8 emptyBits)).flatten else numsB (os.headD false) ns) ++ rest)) := by
      rw [if_pos rfl]
      simp [List.append_assoc]
    rw [← e]
    simpa using h
  | @ls ns hl =>
    intro hn hnn hs W B p bo no os rest h hB
    rw [wkbT_mk] at h
    refine run_of (bo := bo) (no := no) (os.headD false) (k := 2) (D := D) (body := lineB (os.headD false) (.mk 2 D ns [])) (rest := rest) (by decide) (by decide) d0 d1 hB (fun w hs1 hl1 hw1 => root_ls (a := []) (bo := 0) (no := false) hl1 (by omega) (fun v hv => parseLine_any (os.headD false) (by have := hv.size; omega) d0 d1 (.ls hl) rfl hn hs (hw1.keep hv))) ?_
    simpa [List.append_assoc] using h
  | @parts k ks hk hks hkk ih =>
    intro hn hnn hs W B p bo no os rest h hB
    have hnk : ∀ t ∈ ks, NumT t := by
      cases hn with
      | mk a b => exact b
    have hnn2 := hnn.nums.2
    rw [np_mk] at hs
    have hsum : (ks.map Gm.np).sum ≤ 100000 := by
      generalize ([] : List Nat).length / wd D = z at hs
      omega
    have hih : ∀ t ∈ ks, RunAt t := fun t ht => ih t ht (hnk t ht) (hnn2 t ht) (by have := np_mem ht; omega)
    rw [wkbT_mk] at h
    rcases hk with rfl | rfl | rfl | rfl | rfl
    · refine run_of (bo := bo) (no := no) (os.headD false) (k := 0) (D := D) (body := uB (os.headD false) 4 ks.length ++ (wkbsT ks os.tail).1) (rest := rest) (by decide) (by decide) d0 d1 hB (fun w hs1 hl1 hw1 => root_gc (a := []) (bo := 0) (no := false) hl1 (by omega) (fun v hv => parseGeometryCollection_any (os.headD false) (os := os.tail) d0 d1 (by have := hv.size; omega) hks hsum hih rfl (by have := hw1.keep hv; rwa [List.append_assoc] at this))) ?_
      simpa [List.append_assoc] using h
    · refine run_of (bo := bo) (no := no) (os.headD false) (k := 3) (D := D) (body := uB (os.headD false) 4 ks.length ++ (ks.map (lineB (os.headD false))).flatten) (rest := rest) (by decide) (by decide) d0 d1 hB (fun w hs1 hl1 hw1 => root_pg (a := []) (bo := 0) (no := false) hl1 (by omega) (fun v hv => parsePolygon_any (os.headD false) d0 d1 (by have := hv.size; omega) hks (fun t ht => ((hkk t ht).resolve_left (by decide)).symm) hnk hsum (by have := hw1.keep hv; rwa [List.append_assoc] at this))) ?_
      simpa [List.append_assoc] using h
    · refine run_of (bo := bo) (no := no) (os.headD false) (k := 4) (D := D) (body := uB (os.headD false) 4 ks.length ++ (wkbsT ks os.tail).1) (rest := rest) (by decide) (by decide) d0 d1 hB (fun w hs1 hl1 hw1 => root_mp (a := []) (bo := 0) (no := false) hl1 (by omega) (fun v hv => parseMultiPoint_any (os.headD false) (os := os.tail) d0 d1 (by have := hv.size; omega) hks (fun t ht => ((hkk t ht).resolve_left (by decide)).symm) hsum hih rfl (by have := hw1.keep hv; rwa [List.append_assoc] at this))) ?_
      simpa [List.append_assoc] using h
    · refine run_of (bo := bo) (no := no) (os.headD false) (k := 5) (D := D) (body := uB (os.headD false) 4 ks.length ++ (wkbsT ks os.tail).1) (rest := rest) (by decide) (by decide) d0 d1 hB (fun w hs1 hl1 hw1 => root_ml (a := []) (bo := 0) (no := false) hl1 (by omega) (fun v hv => parseMultiLineString_any (os.headD false) (os := os.tail) d0 d1 (by have := hv.size; omega) hks (fun t ht => ((hkk t ht).resolve_left (by decide)).symm) hsum hih rfl (by have := hw1.keep hv; rwa [List.append_assoc] at this))) ?_
      simpa [List.append_assoc] using h
    · refine run_of (bo := bo) (no := no) (os.headD false) (k := 6) (D := D) (body := uB (os.headD false) 4 ks.length ++ (wkbsT ks os.tail).1) (rest := rest) (by decide) (by decide) d0 d1 hB (fun w hs1 hl1 hw1 => root_my (a := []) (bo := 0) (no := false) hl1 (by omega) (fun v hv => parseMultiPolygon_any (os.headD false) (os := os.tail) d0 d1 (by have := hv.size; omega) hks (fun t ht => ((hkk t ht).resolve_left (by decide)).symm) hsum hih rfl (by have := hw1.keep hv; rwa [List.append_assoc] at this))) ?_
      simpa [List.append_assoc] using h

end Go.Proofs.YtofdccmmagcamaaGreatDoor
