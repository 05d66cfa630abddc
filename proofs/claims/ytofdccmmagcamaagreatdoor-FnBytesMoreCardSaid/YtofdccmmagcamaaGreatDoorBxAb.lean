import Derived.Test.YtofdccmmagcamaaGreatDoorBxAa
import Derived.Test.YtofdccmmagcamaaGreatDoorMhU
/- The thin package's plain data: how many parts, the part of a number, the rings of a polygon. -/
set_option maxHeartbeats 8000000
set_option linter.unusedSimpArgs false
set_option linter.unusedVariables false
namespace Go.Proofs.YtofdccmmagcamaaGreatDoor
open Go.RowKit

attribute [local go_sem] run_store_float

set_option maxRecDepth 100000 in
theorem NumMp (A : Option Addr) (n c : Nat) (q : Int) (W : World) : Calls Tryz.prog 157 #[.agg #[.slice A n c, .int .u8 q]] W fun e w' => e = .returned (.int .i64 n) ∧ Below W.heap.size W w' := by
  go_enter Tryz.func157, Tryz.ntmps157
  go_wp2
  go_ret
  exact ⟨rfl, (Below.refl _ _).alloc (Nat.le_refl _) _⟩

set_option maxRecDepth 100000 in
theorem GetMp {ok : Nat → Prop} {A : Option Addr} {n c : Nat} {q : Int} {ks : List Gm} (W : World) (h : KRow PtG 109 6 W ok (.slice A n c) ks) (hl : ks.length = n) {i : Nat} (hi : i < n) {t : Gm} (ht : ks[i]? = some t) :
    Calls Tryz.prog 158 #[.agg #[.slice A n c, .int .u8 q], .int .i64 i] W fun e w' => ∃ x, e = .returned (.agg x.toArray) ∧ PtG w' (fun b => b < W.heap.size) x t ∧ Below W.heap.size W w' := by
  obtain ⟨g, x, t', rfl, hg, ht', hxl, hcell, hr, hlt⟩ := row_at hl h hi
  obtain rfl : t' = t := by rw [ht] at ht'; exact (Option.some.inj ht').symm
  obtain ⟨x0, x1, x2, x3, x4, x5, rfl, -⟩ := hr.shape
  have hgl := hlt (by decide)
  have hb : Below W.heap.size W ((W.alloc (.cells #[.slice (some ⟨g, 0, none⟩) n c, .int .u8 q] 114)).alloc (.cells #[.float .f64 0, .float .f64 0, .float .f64 0, .float .f64 0, .int .u8 0, .bool false] 109)) := ((Below.refl _ _).alloc (Nat.le_refl _) _).alloc (by simp) _
  have hx := Blk.new (W.alloc (.cells #[.slice (some ⟨g, 0, none⟩) n c, .int .u8 q] 114)) 109 #[.float .f64 0, .float .f64 0, .float .f64 0, .float .f64 0, .int .u8 0, .bool false]
  have hg2 := (Blk.new W 114 #[.slice (some ⟨g, 0, none⟩) n c, .int .u8 q]).alloc (.cells #[.float .f64 0, .float .f64 0, .float .f64 0, .float .f64 0, .int .u8 0, .bool false] 109)
  rw [World.size_alloc] at hx
  have c0 : ((W.alloc (.cells #[.slice (some ⟨g, 0, none⟩) n c, .int .u8 q] 114)).alloc (.cells #[.float .f64 0, .float .f64 0, .float .f64 0, .float .f64 0, .int .u8 0, .bool false] 109)).cell? ⟨g, i * 6, none⟩ = some (.float .f64 x0) := (World.cell?_of_block (hb.block g hgl)).trans (by have := hcell 0 _ rfl; simpa using this)
  have c1 : ((W.alloc (.cells #[.slice (some ⟨g, 0, none⟩) n c, .int .u8 q] 114)).alloc (.cells #[.float .f64 0, .float .f64 0, .float .f64 0, .float .f64 0, .int .u8 0, .bool false] 109)).cell? ⟨g, i * 6 + 1, none⟩ = some (.float .f64 x1) := (World.cell?_of_block (hb.block g hgl)).trans (by have := hcell 1 _ rfl; simpa using this)
  have c2 : ((W.alloc (.cells #[.slice (some ⟨g, 0, none⟩) n c, .int .u8 q] 114)).alloc (.cells #[.float .f64 0, .float .f64 0, .float .f64 0, .float .f64 0, .int .u8 0, .bool false] 109)).cell? ⟨g, i * 6 + 2, none⟩ = some (.float .f64 x2) := (World.cell?_of_block (hb.block g hgl)).trans (by have := hcell 2 _ rfl; simpa using this)
  have c3 : ((W.alloc (.cells #[.slice (some ⟨g, 0, none⟩) n c, .int .u8 q] 114)).alloc (.cells #[.float .f64 0, .float .f64 0, .float .f64 0, .float .f64 0, .int .u8 0, .bool false] 109)).cell? ⟨g, i * 6 + 3, none⟩ = some (.float .f64 x3) := (World.cell?_of_block (hb.block g hgl)).trans (by have := hcell 3 _ rfl; simpa using this)
  have c4 : ((W.alloc (.cells #[.slice (some ⟨g, 0, none⟩) n c, .int .u8 q] 114)).alloc (.cells #[.float .f64 0, .float .f64 0, .float .f64 0, .float .f64 0, .int .u8 0, .bool false] 109)).cell? ⟨g, i * 6 + 4, none⟩ = some (.int .u8 x4) := (World.cell?_of_block (hb.block g hgl)).trans (by have := hcell 4 _ rfl; simpa using this)
  have c5 : ((W.alloc (.cells #[.slice (some ⟨g, 0, none⟩) n c, .int .u8 q] 114)).alloc (.cells #[.float .f64 0, .float .f64 0, .float .f64 0, .float .f64 0, .int .u8 0, .bool false] 109)).cell? ⟨g, i * 6 + 5, none⟩ = some (.bool x5) := (World.cell?_of_block (hb.block g hgl)).trans (by have := hcell 5 _ rfl; simpa using this)
  have HR := Hd hr
  have HB := Hd hb
  clear hr
  generalize hw2 : ((W.alloc (.cells #[.slice (some ⟨g, 0, none⟩) n c, .int .u8 q] 114)).alloc (.cells #[.float .f64 0, .float .f64 0, .float .f64 0, .float .f64 0, .int .u8 0, .bool false] 109)) = w2 at *
  have HW2 := Hd hw2
  have g0 := hg2.cell 0
  simp at g0
  have z0 := hx.frozen 0
  have y0 := hx.cell 0
  have z1 := hx.frozen 1
  have y1 := hx.cell 1
  have z2 := hx.frozen 2
  have y2 := hx.cell 2
  have z3 := hx.frozen 3
  have y3 := hx.cell 3
  have z4 := hx.frozen 4
  have y4 := hx.cell 4
  have z5 := hx.frozen 5
  have y5 := hx.cell 5
  simp at y0 y1 y2 y3 y4 y5
  have hii : decide ((i : Int) < (n : Int)) = true := decide_eq_true (by omega)
  have e0 : (w2.setCell ⟨W.heap.size + 1, 0, none⟩ (.float .f64 x0)).cell? ⟨W.heap.size + 1, 0, none⟩ = some (.float .f64 x0) := by simpa using (hx.set_ 0 (.float .f64 x0)).cell 0
  have e1 : ((w2.setCell ⟨W.heap.size + 1, 0, none⟩ (.float .f64 x0)).setCell ⟨W.heap.size + 1, 1, none⟩ (.float .f64 x1)).cell? ⟨W.heap.size + 1, 1, none⟩ = some (.float .f64 x1) := by simpa using ((hx.set_ 0 (.float .f64 x0)).set_ 1 (.float .f64 x1)).cell 1
  have e2 : (((w2.setCell ⟨W.heap.size + 1, 0, none⟩ (.float .f64 x0)).setCell ⟨W.heap.size + 1, 1, none⟩ (.float .f64 x1)).setCell ⟨W.heap.size + 1, 2, none⟩ (.float .f64 x2)).cell? ⟨W.heap.size + 1, 2, none⟩ = some (.float .f64 x2) := by simpa using (((hx.set_ 0 (.float .f64 x0)).set_ 1 (.float .f64 x1)).set_ 2 (.float .f64 x2)).cell 2
  have e3 : ((((w2.setCell ⟨W.heap.size + 1, 0, none⟩ (.float .f64 x0)).setCell ⟨W.heap.size + 1, 1, none⟩ (.float .f64 x1)).setCell ⟨W.heap.size + 1, 2, none⟩ (.float .f64 x2)).setCell ⟨W.heap.size + 1, 3, none⟩ (.float .f64 x3)).cell? ⟨W.heap.size + 1, 3, none⟩ = some (.float .f64 x3) := by simpa using ((((hx.set_ 0 (.float .f64 x0)).set_ 1 (.float .f64 x1)).set_ 2 (.float .f64 x2)).set_ 3 (.float .f64 x3)).cell 3
  have e4 : (((((w2.setCell ⟨W.heap.size + 1, 0, none⟩ (.float .f64 x0)).setCell ⟨W.heap.size + 1, 1, none⟩ (.float .f64 x1)).setCell ⟨W.heap.size + 1, 2, none⟩ (.float .f64 x2)).setCell ⟨W.heap.size + 1, 3, none⟩ (.float .f64 x3)).setCell ⟨W.heap.size + 1, 4, none⟩ (.int .u8 x4)).cell? ⟨W.heap.size + 1, 4, none⟩ = some (.int .u8 x4) := by simpa using (((((hx.set_ 0 (.float .f64 x0)).set_ 1 (.float .f64 x1)).set_ 2 (.float .f64 x2)).set_ 3 (.float .f64 x3)).set_ 4 (.int .u8 x4)).cell 4
  have e5 : ((((((w2.setCell ⟨W.heap.size + 1, 0, none⟩ (.float .f64 x0)).setCell ⟨W.heap.size + 1, 1, none⟩ (.float .f64 x1)).setCell ⟨W.heap.size + 1, 2, none⟩ (.float .f64 x2)).setCell ⟨W.heap.size + 1, 3, none⟩ (.float .f64 x3)).setCell ⟨W.heap.size + 1, 4, none⟩ (.int .u8 x4)).setCell ⟨W.heap.size + 1, 5, none⟩ (.bool x5)).cell? ⟨W.heap.size + 1, 5, none⟩ = some (.bool x5) := by simpa using ((((((hx.set_ 0 (.float .f64 x0)).set_ 1 (.float .f64 x1)).set_ 2 (.float .f64 x2)).set_ 3 (.float .f64 x3)).set_ 4 (.int .u8 x4)).set_ 5 (.bool x5)).cell 5
  clear hb hcell h hx hg2 hlt ht' hl hw2
  go_enter Tryz.func158, Tryz.ntmps158
  go_upto_region 1 with fail
  rw [HW2.out]
  go_wp2
  refine bodyPost_ret (by simp [results, Tryz.results158, go_sem, e0, e1, e2, e3, e4, e5]; try rfl) rfl ?_
  have hbe : Below W.heap.size W ((((((w2.setCell ⟨W.heap.size + 1, 0, none⟩ (.float .f64 x0)).setCell ⟨W.heap.size + 1, 1, none⟩ (.float .f64 x1)).setCell ⟨W.heap.size + 1, 2, none⟩ (.float .f64 x2)).setCell ⟨W.heap.size + 1, 3, none⟩ (.float .f64 x3)).setCell ⟨W.heap.size + 1, 4, none⟩ (.int .u8 x4)).setCell ⟨W.heap.size + 1, 5, none⟩ (.bool x5)) := (below_setCell' (below_setCell' (below_setCell' (below_setCell' (below_setCell' (below_setCell' HB.out (Nat.le_succ _) _) (Nat.le_succ _) _) (Nat.le_succ _) _) (Nat.le_succ _) _) (Nat.le_succ _) _) (Nat.le_succ _) _)
  exact ⟨_, rfl, PtG.keeps _ _ _ _ _ _ HR.out (fun b _ hl => hbe.block b hl) (fun b _ hl => hl), hbe⟩

set_option maxRecDepth 100000 in
theorem NumMl (A : Option Addr) (n c : Nat) (q : Int) (W : World) : Calls Tryz.prog 159 #[.agg #[.slice A n c, .int .u8 q]] W fun e w' => e = .returned (.int .i64 n) ∧ Below W.heap.size W w' := by
  go_enter Tryz.func159, Tryz.ntmps159
  go_wp2
  go_ret
  exact ⟨rfl, (Below.refl _ _).alloc (Nat.le_refl _) _⟩

set_option maxRecDepth 100000 in
theorem GetMl {ok : Nat → Prop} {A : Option Addr} {n c : Nat} {q : Int} {ks : List Gm} (W : World) (h : KRow LsG 89 2 W ok (.slice A n c) ks) (hl : ks.length = n) {i : Nat} (hi : i < n) {t : Gm} (ht : ks[i]? = some t) :
    Calls Tryz.prog 160 #[.agg #[.slice A n c, .int .u8 q], .int .i64 i] W fun e w' => ∃ x, e = .returned (.agg x.toArray) ∧ LsG w' (fun b => b < W.heap.size) x t ∧ Below W.heap.size W w' := by
  obtain ⟨g, x, t', rfl, hg, ht', hxl, hcell, hr, hlt⟩ := row_at hl h hi
  obtain rfl : t' = t := by rw [ht] at ht'; exact (Option.some.inj ht').symm
  obtain ⟨x0, x1, x2, x3, rfl, -⟩ := hr.shape
  have hgl := hlt (by decide)
  have hb : Below W.heap.size W ((W.alloc (.cells #[.slice (some ⟨g, 0, none⟩) n c, .int .u8 q] 117)).alloc (.cells #[.int .u8 0, .slice none 0 0] 89)) := ((Below.refl _ _).alloc (Nat.le_refl _) _).alloc (by simp) _
  have hx := Blk.new (W.alloc (.cells #[.slice (some ⟨g, 0, none⟩) n c, .int .u8 q] 117)) 89 #[.int .u8 0, .slice none 0 0]
  have hg2 := (Blk.new W 117 #[.slice (some ⟨g, 0, none⟩) n c, .int .u8 q]).alloc (.cells #[.int .u8 0, .slice none 0 0] 89)
  rw [World.size_alloc] at hx
  have c0 : ((W.alloc (.cells #[.slice (some ⟨g, 0, none⟩) n c, .int .u8 q] 117)).alloc (.cells #[.int .u8 0, .slice none 0 0] 89)).cell? ⟨g, i * 2, none⟩ = some (.int .u8 x0) := (World.cell?_of_block (hb.block g hgl)).trans (by have := hcell 0 _ rfl; simpa using this)
  have c1 : ((W.alloc (.cells #[.slice (some ⟨g, 0, none⟩) n c, .int .u8 q] 117)).alloc (.cells #[.int .u8 0, .slice none 0 0] 89)).cell? ⟨g, i * 2 + 1, none⟩ = some (.slice x1 x2 x3) := (World.cell?_of_block (hb.block g hgl)).trans (by have := hcell 1 _ rfl; simpa using this)
  have HR := Hd hr
  have HB := Hd hb
  clear hr
  generalize hw2 : ((W.alloc (.cells #[.slice (some ⟨g, 0, none⟩) n c, .int .u8 q] 117)).alloc (.cells #[.int .u8 0, .slice none 0 0] 89)) = w2 at *
  have HW2 := Hd hw2
  have g0 := hg2.cell 0
  simp at g0
  have z0 := hx.frozen 0
  have y0 := hx.cell 0
  have z1 := hx.frozen 1
  have y1 := hx.cell 1
  simp at y0 y1
  have hii : decide ((i : Int) < (n : Int)) = true := decide_eq_true (by omega)
  have e0 : (w2.setCell ⟨W.heap.size + 1, 0, none⟩ (.int .u8 x0)).cell? ⟨W.heap.size + 1, 0, none⟩ = some (.int .u8 x0) := by simpa using (hx.set_ 0 (.int .u8 x0)).cell 0
  have e1 : ((w2.setCell ⟨W.heap.size + 1, 0, none⟩ (.int .u8 x0)).setCell ⟨W.heap.size + 1, 1, none⟩ (.slice x1 x2 x3)).cell? ⟨W.heap.size + 1, 1, none⟩ = some (.slice x1 x2 x3) := by simpa using ((hx.set_ 0 (.int .u8 x0)).set_ 1 (.slice x1 x2 x3)).cell 1
  clear hb hcell h hx hg2 hlt ht' hl hw2
  go_enter Tryz.func160, Tryz.ntmps160
  go_upto_region 1 with fail
  rw [HW2.out]
  go_wp2
  refine bodyPost_ret (by simp [results, Tryz.results160, go_sem, e0, e1]; try rfl) rfl ?_
  have hbe : Below W.heap.size W ((w2.setCell ⟨W.heap.size + 1, 0, none⟩ (.int .u8 x0)).setCell ⟨W.heap.size + 1, 1, none⟩ (.slice x1 x2 x3)) := (below_setCell' (below_setCell' HB.out (Nat.le_succ _) _) (Nat.le_succ _) _)
  exact ⟨_, rfl, LsG.keeps _ _ _ _ _ _ HR.out (fun b _ hl => hbe.block b hl) (fun b _ hl => hl), hbe⟩

set_option maxRecDepth 100000 in
theorem NumMy (A : Option Addr) (n c : Nat) (q : Int) (W : World) : Calls Tryz.prog 161 #[.agg #[.slice A n c, .int .u8 q]] W fun e w' => e = .returned (.int .i64 n) ∧ Below W.heap.size W w' := by
  go_enter Tryz.func161, Tryz.ntmps161
  go_wp2
  go_ret
  exact ⟨rfl, (Below.refl _ _).alloc (Nat.le_refl _) _⟩

set_option maxRecDepth 100000 in
theorem GetMy {ok : Nat → Prop} {A : Option Addr} {n c : Nat} {q : Int} {ks : List Gm} (W : World) (h : KRow PgG 60 2 W ok (.slice A n c) ks) (hl : ks.length = n) {i : Nat} (hi : i < n) {t : Gm} (ht : ks[i]? = some t) :
    Calls Tryz.prog 162 #[.agg #[.slice A n c, .int .u8 q], .int .i64 i] W fun e w' => ∃ x, e = .returned (.agg x.toArray) ∧ PgG w' (fun b => b < W.heap.size) x t ∧ Below W.heap.size W w' := by
  obtain ⟨g, x, t', rfl, hg, ht', hxl, hcell, hr, hlt⟩ := row_at hl h hi
  obtain rfl : t' = t := by rw [ht] at ht'; exact (Option.some.inj ht').symm
  obtain ⟨x0, x1, x2, x3, rfl, -⟩ := hr.shape
  have hgl := hlt (by decide)
  have hb : Below W.heap.size W ((W.alloc (.cells #[.slice (some ⟨g, 0, none⟩) n c, .int .u8 q] 121)).alloc (.cells #[.slice none 0 0, .int .u8 0] 60)) := ((Below.refl _ _).alloc (Nat.le_refl _) _).alloc (by simp) _
  have hx := Blk.new (W.alloc (.cells #[.slice (some ⟨g, 0, none⟩) n c, .int .u8 q] 121)) 60 #[.slice none 0 0, .int .u8 0]
  have hg2 := (Blk.new W 121 #[.slice (some ⟨g, 0, none⟩) n c, .int .u8 q]).alloc (.cells #[.slice none 0 0, .int .u8 0] 60)
  rw [World.size_alloc] at hx
  have c0 : ((W.alloc (.cells #[.slice (some ⟨g, 0, none⟩) n c, .int .u8 q] 121)).alloc (.cells #[.slice none 0 0, .int .u8 0] 60)).cell? ⟨g, i * 2, none⟩ = some (.slice x0 x1 x2) := (World.cell?_of_block (hb.block g hgl)).trans (by have := hcell 0 _ rfl; simpa using this)
  have c1 : ((W.alloc (.cells #[.slice (some ⟨g, 0, none⟩) n c, .int .u8 q] 121)).alloc (.cells #[.slice none 0 0, .int .u8 0] 60)).cell? ⟨g, i * 2 + 1, none⟩ = some (.int .u8 x3) := (World.cell?_of_block (hb.block g hgl)).trans (by have := hcell 1 _ rfl; simpa using this)
  have HR := Hd hr
  have HB := Hd hb
  clear hr
  generalize hw2 : ((W.alloc (.cells #[.slice (some ⟨g, 0, none⟩) n c, .int .u8 q] 121)).alloc (.cells #[.slice none 0 0, .int .u8 0] 60)) = w2 at *
  have HW2 := Hd hw2
  have g0 := hg2.cell 0
  simp at g0
  have z0 := hx.frozen 0
  have y0 := hx.cell 0
  have z1 := hx.frozen 1
  have y1 := hx.cell 1
  simp at y0 y1
  have hii : decide ((i : Int) < (n : Int)) = true := decide_eq_true (by omega)
  have e0 : (w2.setCell ⟨W.heap.size + 1, 0, none⟩ (.slice x0 x1 x2)).cell? ⟨W.heap.size + 1, 0, none⟩ = some (.slice x0 x1 x2) := by simpa using (hx.set_ 0 (.slice x0 x1 x2)).cell 0
  have e1 : ((w2.setCell ⟨W.heap.size + 1, 0, none⟩ (.slice x0 x1 x2)).setCell ⟨W.heap.size + 1, 1, none⟩ (.int .u8 x3)).cell? ⟨W.heap.size + 1, 1, none⟩ = some (.int .u8 x3) := by simpa using ((hx.set_ 0 (.slice x0 x1 x2)).set_ 1 (.int .u8 x3)).cell 1
  clear hb hcell h hx hg2 hlt ht' hl hw2
  go_enter Tryz.func162, Tryz.ntmps162
  go_upto_region 1 with fail
  rw [HW2.out]
  go_wp2
  refine bodyPost_ret (by simp [results, Tryz.results162, go_sem, e0, e1]; try rfl) rfl ?_
  have hbe : Below W.heap.size W ((w2.setCell ⟨W.heap.size + 1, 0, none⟩ (.slice x0 x1 x2)).setCell ⟨W.heap.size + 1, 1, none⟩ (.int .u8 x3)) := (below_setCell' (below_setCell' HB.out (Nat.le_succ _) _) (Nat.le_succ _) _)
  exact ⟨_, rfl, PgG.keeps _ _ _ _ _ _ HR.out (fun b _ hl => hbe.block b hl) (fun b _ hl => hl), hbe⟩

set_option maxRecDepth 100000 in
theorem NumGc (A : Option Addr) (n c : Nat) (q : Int) (W : World) : Calls Tryz.prog 163 #[.agg #[.slice A n c, .int .u8 q]] W fun e w' => e = .returned (.int .i64 n) ∧ Below W.heap.size W w' := by
  go_enter Tryz.func163, Tryz.ntmps163
  go_wp2
  go_ret
  exact ⟨rfl, (Below.refl _ _).alloc (Nat.le_refl _) _⟩

set_option maxRecDepth 100000 in
theorem GetGc {ok : Nat → Prop} {A : Option Addr} {n c : Nat} {q : Int} {ks : List Gm} (W : World) (h : KRow GeoG 68 2 W ok (.slice A n c) ks) (hl : ks.length = n) {i : Nat} (hi : i < n) {t : Gm} (ht : ks[i]? = some t) :
    Calls Tryz.prog 164 #[.agg #[.slice A n c, .int .u8 q], .int .i64 i] W fun e w' => ∃ x, e = .returned (.agg x.toArray) ∧ GeoG w' (fun b => b < W.heap.size) x t ∧ Below W.heap.size W w' := by
  obtain ⟨g, x, t', rfl, hg, ht', hxl, hcell, hr, hlt⟩ := row_at hl h hi
  obtain rfl : t' = t := by rw [ht] at ht'; exact (Option.some.inj ht').symm
  obtain ⟨x0, x1, x2, rfl, -⟩ := hr.shape
  have hgl := hlt (by decide)
  have hb : Below W.heap.size W ((W.alloc (.cells #[.slice (some ⟨g, 0, none⟩) n c, .int .u8 q] 125)).alloc (.cells #[.int .i64 0, .nilIface] 68)) := ((Below.refl _ _).alloc (Nat.le_refl _) _).alloc (by simp) _
  have hx := Blk.new (W.alloc (.cells #[.slice (some ⟨g, 0, none⟩) n c, .int .u8 q] 125)) 68 #[.int .i64 0, .nilIface]
  have hg2 := (Blk.new W 125 #[.slice (some ⟨g, 0, none⟩) n c, .int .u8 q]).alloc (.cells #[.int .i64 0, .nilIface] 68)
  rw [World.size_alloc] at hx
  have c0 : ((W.alloc (.cells #[.slice (some ⟨g, 0, none⟩) n c, .int .u8 q] 125)).alloc (.cells #[.int .i64 0, .nilIface] 68)).cell? ⟨g, i * 2, none⟩ = some (.int .i64 x0) := (World.cell?_of_block (hb.block g hgl)).trans (by have := hcell 0 _ rfl; simpa using this)
  have c1 : ((W.alloc (.cells #[.slice (some ⟨g, 0, none⟩) n c, .int .u8 q] 125)).alloc (.cells #[.int .i64 0, .nilIface] 68)).cell? ⟨g, i * 2 + 1, none⟩ = some (.iface x1 (.pointer (some ⟨x2, 0, none⟩))) := (World.cell?_of_block (hb.block g hgl)).trans (by have := hcell 1 _ rfl; simpa using this)
  have HR := Hd hr
  have HB := Hd hb
  clear hr
  generalize hw2 : ((W.alloc (.cells #[.slice (some ⟨g, 0, none⟩) n c, .int .u8 q] 125)).alloc (.cells #[.int .i64 0, .nilIface] 68)) = w2 at *
  have HW2 := Hd hw2
  have g0 := hg2.cell 0
  simp at g0
  have z0 := hx.frozen 0
  have y0 := hx.cell 0
  have z1 := hx.frozen 1
  have y1 := hx.cell 1
  simp at y0 y1
  have hii : decide ((i : Int) < (n : Int)) = true := decide_eq_true (by omega)
  have e0 : (w2.setCell ⟨W.heap.size + 1, 0, none⟩ (.int .i64 x0)).cell? ⟨W.heap.size + 1, 0, none⟩ = some (.int .i64 x0) := by simpa using (hx.set_ 0 (.int .i64 x0)).cell 0
  have e1 : ((w2.setCell ⟨W.heap.size + 1, 0, none⟩ (.int .i64 x0)).setCell ⟨W.heap.size + 1, 1, none⟩ (.iface x1 (.pointer (some ⟨x2, 0, none⟩)))).cell? ⟨W.heap.size + 1, 1, none⟩ = some (.iface x1 (.pointer (some ⟨x2, 0, none⟩))) := by simpa using ((hx.set_ 0 (.int .i64 x0)).set_ 1 (.iface x1 (.pointer (some ⟨x2, 0, none⟩)))).cell 1
  clear hb hcell h hx hg2 hlt ht' hl hw2
  go_enter Tryz.func164, Tryz.ntmps164
  go_upto_region 1 with fail
  rw [HW2.out]
  go_wp2
  refine bodyPost_ret (by simp [results, Tryz.results164, go_sem, e0, e1]; try rfl) rfl ?_
  have hbe : Below W.heap.size W ((w2.setCell ⟨W.heap.size + 1, 0, none⟩ (.int .i64 x0)).setCell ⟨W.heap.size + 1, 1, none⟩ (.iface x1 (.pointer (some ⟨x2, 0, none⟩)))) := (below_setCell' (below_setCell' HB.out (Nat.le_succ _) _) (Nat.le_succ _) _)
  exact ⟨_, rfl, GeoG.keeps _ _ _ _ _ _ HR.out (fun b _ hl => hbe.block b hl) (fun b _ hl => hl), hbe⟩

theorem run_copy_madeN {P : Program} {w : World} {dT sT ty e t : TypeId} {g k c sz : Nat} {A : Option Addr} {cur : Array Value} {cs : List Value} (hu : P.underlying dT = some (.slice e)) (hs : (P.info? e).map (·.size) = some sz)
    (hg : w.heap[g]? = some (.cells cur t (0, 0))) (hcur : cur.size = k * sz) (hcs : cs.length = k * sz) (hrd : 0 < k → ∃ ad, A = some ad ∧ ∀ j v, cs[j]? = some v → w.cell? (ad.add j) = some v) (h1 : ∀ v ∈ cs, v.oneCell' = true) :
    ∃ w', (Builtin.copy_ #[dT, sT] ty #[.slice (some ⟨g, 0, none⟩) k k, .slice A k c]).run P w = .ok (.int .i64 k) w' ∧ w'.heap[g]? = some (.cells cs.toArray t (0, 0)) ∧ ∀ B, B ≤ g → Below B w w' := by
  obtain ⟨i, hq, hi⟩ : ∃ i, P.info? e = some i ∧ i.size = sz := by
    cases hq : P.info? e with
    | none => simp [hq] at hs
    | some i => exact ⟨i, rfl, by simpa [hq] using hs⟩
  have hst := run_storeCells_at P g 0 t cs 0 cur w hg (by rw [hcur, hcs]; omega) h1
  have e : ((cur.toList.take (0 + 0)) ++ cs ++ cur.toList.drop (0 + 0 + cs.length)) = cs := by
    rw [List.drop_eq_nil_of_le (by rw [hcs, ← hcur]; simp)]
    simp
  rw [e] at hst
  refine ⟨w.setRow g cs.toArray, ?_, setRow_heap w g _ _ t _ hg, fun B hB => below_setRow (Below.refl _ _) hB _⟩
  by_cases h0 : k = 0
  · subst h0
    obtain rfl : cs = [] := List.eq_nil_of_length_eq_zero (by simpa using hcs)
    cases A with
    | none => simp [Builtin.copy_, run_underlying hu, Builtin.lenOf, Builtin.firstCells, sizeOf, typeInfo, hq, hst, goInt]
    | some a =>
      have hl := run_loadCells_list (P := P) w a [] (by simp)
      simp only [List.length_nil] at hl
      simp [Builtin.copy_, run_underlying hu, Builtin.lenOf, Builtin.firstCells, sizeOf, typeInfo, hq, hl, hst, goInt]
  · obtain ⟨ad, rfl, hc⟩ := hrd (by omega)
    have hl := run_loadCells_list (P := P) w ad cs hc
    rw [hcs] at hl
    simp [Builtin.copy_, run_underlying hu, Builtin.lenOf, Builtin.firstCells, sizeOf, typeInfo, hq, hi, hl, hst, goInt]

set_option maxRecDepth 100000 in
theorem DumpRings_G {ok : Nat → Prop} {A : Option Addr} {n c : Nat} {q : Int} {ks : List Gm} (W : World) (h : KRow LsG 89 2 W ok (.slice A n c) ks) (hl : ks.length = n) (hn : n ≤ 100000) :
    Calls Tryz.prog 156 #[.agg #[.slice A n c, .int .u8 q]] W fun e w' => ∃ A' c', e = .returned (.slice A' n c') ∧ KRow LsG 89 2 w' (fun b => (ok b ∨ W.heap.size ≤ b) ∧ b < w'.heap.size) (.slice A' n c') ks ∧ Below W.heap.size W w' := by
  obtain ⟨i0, hi0, hz0, hz1, hz2⟩ := info_parts info_ls
  have hmk : ∀ w : World, (Instr.makeSlice 57 (.int .i64 (n : Int)) (.int .i64 (n : Int))).run Tryz.prog w = .ok (.slice (some ⟨w.heap.size, 0, none⟩) n n) (w.alloc (.cells (madeCells #[.int .u8 0, .slice none 0 0] (n * 2)) 89)) := fun w => by
    have h := run_make_rowN (P := Tryz.prog) 57 89 i0 (.agg #[.int .u8 0, .slice none 0 0]) Tryz.underlying57 hi0 hz0 .i64 .i64 n n (Nat.le_refl _) (by rw [hz2]; omega) (by omega) w
    rw [hz1] at h
    exact h
  obtain ⟨css, o1, o2, o3, o4, o5⟩ := h
  have hb : Below W.heap.size W ((W.alloc (.cells #[.slice A n c, .int .u8 q] 60)).alloc (.cells (madeCells #[.int .u8 0, .slice none 0 0] (n * 2)) 89)) := ((Below.refl _ _).alloc (Nat.le_refl _) _).alloc (by simp) _
  have hg := (Blk.new W 60 #[.slice A n c, .int .u8 q]).alloc (.cells (madeCells #[.int .u8 0, .slice none 0 0] (n * 2)) 89)
  have hr := Blk.new (W.alloc (.cells #[.slice A n c, .int .u8 q] 60)) 89 (madeCells #[.int .u8 0, .slice none 0 0] (n * 2))
  rw [World.size_alloc] at hr
  have hrl : css.flatten.length = n * 2 := by rw [o1.1, hl]
  generalize hw2 : ((W.alloc (.cells #[.slice A n c, .int .u8 q] 60)).alloc (.cells (madeCells #[.int .u8 0, .slice none 0 0] (n * 2)) 89)) = w2 at *
  obtain ⟨w3, hcp, hg3, hb3⟩ := run_copy_madeN (P := Tryz.prog) (dT := 57) (sT := 57) (ty := 3) (c := c) (A := A) (cs := css.flatten) (k := n) Tryz.underlying57 (by kernel_rfl : (Tryz.prog.info? 89).map (·.size) = some 2) hr (size_madeCells _ _) hrl (fun h0 => by
    rcases o1.2 with ⟨e0, e1⟩ | ⟨g, cap, cur, e0, -, hgg, -⟩
    · omega
    · injection e0 with e1 e2 e3
      subst e1
      refine ⟨_, rfl, fun j u hu => ?_⟩
      have hc := o1.cells (g := g) rfl j u hu
      have hgl : g < W.heap.size := (Array.getElem?_eq_some_iff.1 hgg).1
      rw [← hc]
      have ad : (⟨g, 0, none⟩ : Addr).add j = ⟨g, j, none⟩ := by unfold Addr.add; split <;> simp_all
      rw [ad]
      exact World.cell?_of_block (hb.block g hgl)) (one_cells (fun w ok x t hx u hu => by
        obtain ⟨q, A, n, c, rfl, -⟩ := LsG.shape hx
        simp only [List.mem_cons, List.not_mem_nil, or_false] at hu
        rcases hu with rfl | rfl <;> rfl) o3 o5)
  have hbW : Below W.heap.size W w3 := hb.trans (hb3 _ (Nat.le_succ _))
  have HGO : Hid (KRow LsG 89 2 w3 (fun b => (ok b ∨ W.heap.size ≤ b) ∧ b < w3.heap.size) (.slice (some ⟨W.heap.size + 1, 0, none⟩) n n) ks) := Hd (by
    have hlt3 : W.heap.size + 1 < w3.heap.size := (Array.getElem?_eq_some_iff.1 hg3).1
    refine ⟨css, ⟨by rw [o1.1], .inr ⟨W.heap.size + 1, n, css.flatten.toArray, by rw [hl], Nat.zero_le _, hg3, by rw [hl]; exact Nat.le_refl _, by simp only [maxLen]; omega, by simpa using hrl, ?_⟩⟩, fun b hb => by injection hb with hb; rw [← hb]; exact ⟨.inr (Nat.le_succ _), hlt3⟩, o3, o4, fun i x t hx ht => ?_⟩
    · rw [List.take_of_length_le]
      simp [hrl, hl]
    · refine LsG.keeps _ _ _ _ _ _ (o5 i x t hx ht) (fun b _ hbl => hbW.block b hbl) (fun b hb hbl => ⟨⟨.inl hb.1, by omega⟩, fun e => ?_⟩)
      injection e with e
      have e : W.heap.size + 1 = b := e
      omega)
  have HB := Hd hbW
  have HW2 := Hd hw2
  have z0 := hg.cell 0
  simp at z0
  have y0 := (hg.below (hb3 _ (Nat.le_refl _)) (Nat.lt_succ_self _)).cell 0
  simp at y0
  clear hb hg hr hrl hg3 hb3 hbW o1 o2 o3 o4 o5 hw2
  go_enter Tryz.func156, Tryz.ntmps156
  go_upto_region 2 with fail
  rw [HW2.out]
  go_wp2
  go_returns
  exact ⟨_, _, rfl, HGO.out, HB.out⟩

end Go.Proofs.YtofdccmmagcamaaGreatDoor
