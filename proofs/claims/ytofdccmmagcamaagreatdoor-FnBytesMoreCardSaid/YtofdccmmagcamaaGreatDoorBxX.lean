import Derived.Test.YtofdccmmagcamaaGreatDoorMhQ
import Derived.Test.YtofdccmmagcamaaGreatDoorBxG
import Derived.Test.YtofdccmmagcamaaGreatDoorMhE
import Derived.Deep.Cut
/- The thin package's plain data of points and lines. -/
set_option maxHeartbeats 8000000
set_option linter.unusedSimpArgs false
set_option linter.unusedVariables false
namespace Go.Proofs.YtofdccmmagcamaaGreatDoor
open Go.RowKit

attribute [local go_sem] run_store_float

set_option maxRecDepth 100000 in
theorem PtCoords (x y z m : Nat) (q : Int) (f : Bool) (W : World) : Calls Tryz.prog 152 #[.agg #[.float .f64 x, .float .f64 y, .float .f64 z, .float .f64 m, .int .u8 q, .bool f]] W fun e w' => e = .returned (.tuple #[.agg #[.float .f64 x, .float .f64 y, .float .f64 z, .float .f64 m, .int .u8 q], .bool f]) ∧ Below W.heap.size W w' := by
  go_enter Tryz.func152, Tryz.ntmps152
  go_wp2
  go_region
  go_wp2
  go_returns
  exact ⟨rfl, by go_grown⟩
set_option maxRecDepth 100000 in
theorem LsCoords (q : Int) (A : Option Addr) (n c : Nat) (W : World) : Calls Tryz.prog 120 #[.agg #[.int .u8 q, .slice A n c]] W fun e w' => e = .returned (.agg #[.int .u8 q, .slice A n c]) ∧ Below W.heap.size W w' := by
  go_enter Tryz.func120, Tryz.ntmps120
  go_wp2
  go_returns
  exact ⟨rfl, by go_grown⟩
/-- A geometry's struct under making: its numbers so far. -/
theorem num_push {W W0 W1 : World} {T : Nat} {k d : Int} {v v1 : Value} {xs ys : List Nat} {base : Nat} (x : Blk W T 25 #[.int .i64 k, .int .i64 d, v, .slice none 0 0]) (hw : Below W.heap.size W W0) (hv : W.ownsRow 0 73 1 v xs.length (flV xs)) (hb : ∀ b, v.ownBlock = some b → base ≤ b) (hB : base ≤ W.heap.size) (hT : base ≤ T)
    (ho : W1.ownsRow 0 73 1 v1 (xs.length + ys.length) (flV xs ++ flV ys)) (hg : W0.grownBy W1 v.ownBlock) (hp : v1.ownBlock = v.ownBlock ∨ v1.ownBlock = some W0.heap.size) :
    Blk (W1.setCell ⟨T, 2, none⟩ v1) T 25 #[.int .i64 k, .int .i64 d, v1, .slice none 0 0] ∧ (W1.setCell ⟨T, 2, none⟩ v1).ownsRow 0 73 1 v1 (xs ++ ys).length (flV (xs ++ ys)) ∧ (∀ b, v1.ownBlock = some b → base ≤ b) ∧ Below base W (W1.setCell ⟨T, 2, none⟩ v1) ∧ W1.frozen? ⟨T, 2, none⟩ = false ∧ W1.cell? ⟨T, 2, none⟩ = some v ∧ (∀ b t cs, Blk W b t cs → t ≠ 73 → b ≠ T → Blk (W1.setCell ⟨T, 2, none⟩ v1) b t cs) ∧ (∀ b t cs, Blk W b t cs → t ≠ 73 → Blk W1 b t cs) := by
  have hs := hw.size
  have hs1 := hg.size
  have hne : ∀ b t cs, Blk W b t cs → t ≠ 73 → v.ownBlock ≠ some b := fun b t cs h ht => own_blk_ne hv h (fun e => ht e.symm)
  have hk : ∀ b t cs, Blk W b t cs → t ≠ 73 → Blk W1 b t cs := fun b t cs h ht => (h.below hw h.lt).grown hg (hne b t cs h ht).symm
  have y := hk T _ _ x (by decide)
  have hb1 : ∀ b, v1.ownBlock = some b → base ≤ b := fun b e => by
    rcases hp with e1 | e1 <;> rw [e1] at e
    · exact hb b e
    · injection e with e; omega
  have hn1 : v1.ownBlock ≠ some T := own_blk_ne ho y (by decide)
  refine ⟨by simpa using y.set_ 2 v1, ?_, hb1, ?_, y.frozen 2, by simpa using y.cell 2, fun b t cs h ht hbT => (hk b t cs h ht).far (by show b ≠ T; exact hbT) v1, hk⟩
  · rw [List.length_append, flV_append]
    exact own_keep ho (fun b hb' _ => Below.heap_setCell _ _ _ b (by show b ≠ T; intro e; subst e; exact hn1 hb'))
  · refine Below.trans (hw.mono hB) ?_
    refine ⟨hg.os, hg.tape, hg.output, by simpa [World.setCell] using hg.size, fun b hlb => ?_⟩
    rw [Below.heap_setCell _ _ _ b (by show b ≠ T; omega)]
    exact hg.block b (by omega) (fun e => by have := hb b e.symm; omega)
theorem reads_fl {w : World} {t g : Nat} {ys : List Nat} (hg : g = w.heap.size) : Reads (w.alloc (.cells (flV ys).toArray t)) (w.heap.size + 1) 1 (some ⟨g, 0, none⟩) ys.length (flV ys) := by
  subst hg
  have h := Blk.new w t (flV ys).toArray
  refine ⟨by rw [flV_length, Nat.mul_one], fun _ => ⟨_, rfl, Nat.lt_succ_self _, fun j u hu => ?_⟩⟩
  have ha : (⟨w.heap.size, 0, none⟩ : Addr).add j = ⟨w.heap.size, j, none⟩ := by unfold Addr.add; split <;> simp_all
  rw [ha, h.cell j]
  simpa using hu
theorem plain_made {w : World} {R base : Nat} {k q : Int} {a b c d v : Value} {ns : List Nat} (hb : ∀ b ∈ ns, b < 18446744073709551616) (hv : w.ownsRow 0 73 1 v ns.length (flV ns)) (hvo : ∀ b, v.ownBlock = some b → base ≤ b) (hne : v.ownBlock ≠ some R) :
    GmOn ((((w.setCell ⟨R, 0, none⟩ a).setCell ⟨R, 1, none⟩ b).setCell ⟨R, 2, none⟩ c).setCell ⟨R, 3, none⟩ d) (fun b => base ≤ b) [.int .i64 k, .int .i64 q, v, .slice none 0 0] (.mk k q ns []) := by
  refine GmOn.made hb (own_keep hv (fun b hb' _ => ?_)) hvo (KRow.nil _ _)
  have h : b ≠ R := fun e => by subst e; exact hne hb'
  rw [Below.heap_setCell _ _ _ b h, Below.heap_setCell _ _ _ b h, Below.heap_setCell _ _ _ b h, Below.heap_setCell _ _ _ b h]

set_option maxRecDepth 100000 in
theorem plainPoint_0 {x y z m : Nat} (W : World) (hb : x < 18446744073709551616 ∧ y < 18446744073709551616 ∧ z < 18446744073709551616 ∧ m < 18446744073709551616) :
    Calls Tryz.prog 103 #[.agg #[.float .f64 x, .float .f64 y, .float .f64 z, .float .f64 m, .int .u8 0, .bool true]] W fun e w' => ∃ cs, e = .returned (.agg cs.toArray) ∧ GmOn w' (fun b => W.heap.size ≤ b) cs (.mk 1 0 (plNums 0 (x, y, z, m)) []) ∧ Below W.heap.size W w' := by
  obtain ⟨i0, hi0, hz0, hz1, hz2⟩ := info_parts info_f64
  have hct : ∀ w : World, Calls Tryz.prog 94 #[.agg #[.float .f64 x, .float .f64 y, .float .f64 z, .float .f64 m, .int .u8 0, .bool true]] w fun e w' => e = .returned (.int .u8 0) ∧ Below w.heap.size w w' := fun w : World => PtCT_G (ok := fun _ => True) w (show PtG w (fun _ => True) [.float .f64 x, .float .f64 y, .float .f64 z, .float .f64 m, .int .u8 0, .bool true] (.mk 1 0 (plNums 0 (x, y, z, m)) []) from ⟨x, y, z, m, 0, true, rfl, by omega, by omega, hb, rfl⟩)
  have b2 : Below W.heap.size W ((W.alloc (.cells #[.float .f64 x, .float .f64 y, .float .f64 z, .float .f64 m, .int .u8 0, .bool true] 109)).alloc (.cells #[.int .i64 0, .int .i64 0, .slice none 0 0, .slice none 0 0] 25)) := ((Below.refl _ _).alloc (Nat.le_refl _) _).alloc (by simp) _
  have p2 := (Blk.new W 109 #[.float .f64 x, .float .f64 y, .float .f64 z, .float .f64 m, .int .u8 0, .bool true]).alloc (.cells #[.int .i64 0, .int .i64 0, .slice none 0 0, .slice none 0 0] 25)
  have r2 := Blk.new (W.alloc (.cells #[.float .f64 x, .float .f64 y, .float .f64 z, .float .f64 m, .int .u8 0, .bool true] 109)) 25 #[.int .i64 0, .int .i64 0, .slice none 0 0, .slice none 0 0]
  rw [World.size_alloc] at r2
  have B2 := Hd b2
  have P2 := Hd p2
  have R2 := Hd r2
  have HCT := Hd hct
  have HBN := Hd hb
  clear b2 p2 r2 hct hb
  go_enter Tryz.func103, Tryz.ntmps103
  go_wp2_with fail
  refine (HCT.out _).mono ?_
  rintro e w3 ⟨rfl, b3⟩
  have s3 : W.heap.size + 2 ≤ w3.heap.size := by have := b3.size; simpa using this
  have B3 := Hd ((B2.out.trans (b3.mono B2.out.size)).alloc (by omega) (.cells #[.int .i64 1, .int .i64 0, .slice none 0 0, .slice none 0 0] 25))
  have p3 := (P2.out.below b3 P2.out.lt).alloc (.cells #[.int .i64 1, .int .i64 0, .slice none 0 0, .slice none 0 0] 25)
  have R3 := Hd ((R2.out.below b3 R2.out.lt).alloc (.cells #[.int .i64 1, .int .i64 0, .slice none 0 0, .slice none 0 0] 25))
  have T3 := Hd (Blk.new w3 25 #[.int .i64 1, .int .i64 0, .slice none 0 0, .slice none 0 0])
  have hsa : (w3.alloc (.cells #[.int .i64 1, .int .i64 0, .slice none 0 0, .slice none 0 0] 25)).heap.size = w3.heap.size + 1 := World.size_alloc _ _
  have j0 := p3.cell 0
  have j1 := p3.cell 1
  have j2 := p3.cell 2
  have j3 := p3.cell 3
  have j4 := p3.cell 4
  have j5 := p3.cell 5
  simp at j0 j1 j2 j3 j4 j5
  clear b3 p3 HCT P2 R2 B2
  go_wp2_with fail
  refine (PtCoords x y z m 0 true _).mono ?_
  rintro e w4 ⟨rfl, b4⟩
  have s4 : w3.heap.size + 1 ≤ w4.heap.size := by have := b4.size; rw [hsa] at this; exact this
  have b5 : Below W.heap.size W (w4.alloc (.cells #[.float .f64 x, .float .f64 y, .float .f64 z, .float .f64 m, .int .u8 0] 107)) := (B3.out.trans (b4.mono B3.out.size)).alloc (by omega) _
  have RB := Hd ((R3.out.below b4 R3.out.lt).alloc (.cells #[.float .f64 x, .float .f64 y, .float .f64 z, .float .f64 m, .int .u8 0] 107))
  have XT := Hd ((T3.out.below b4 T3.out.lt).alloc (.cells #[.float .f64 x, .float .f64 y, .float .f64 z, .float .f64 m, .int .u8 0] 107))
  have cb := Blk.new w4 107 #[.float .f64 x, .float .f64 y, .float .f64 z, .float .f64 m, .int .u8 0]
  have CB := Hd cb
  have BE := Hd b5
  have hs5 : (w4.alloc (.cells #[.float .f64 x, .float .f64 y, .float .f64 z, .float .f64 m, .int .u8 0] 107)).heap.size = w4.heap.size + 1 := World.size_alloc _ _
  clear b4 b5 B3 R3 T3 j0 j1 j2 j3 j4 j5 hsa
  go_upto_region 5 with fail
  generalize w4.alloc (.cells #[.float .f64 x, .float .f64 y, .float .f64 z, .float .f64 m, .int .u8 0] 107) = w5 at *
  generalize w4.heap.size = C at *
  generalize w3.heap.size = T at *
  obtain ⟨A0, n0, k0, hA0⟩ : ∃ A0 n0 k0, (Value.slice A0 n0 k0) = .slice none 0 0 := ⟨_, _, _, rfl⟩
  have OV : Hid (w5.ownsRow 0 73 1 (.slice A0 n0 k0) ([] : List Nat).length (flV [])) := Hd (by rw [hA0]; exact World.ownsRow_nil _ _ _ _)
  have VB : Hid (∀ b, (Value.slice A0 n0 k0).ownBlock = some b → W.heap.size ≤ b) := Hd (fun b e => by rw [hA0] at e; simp [Value.ownBlock] at e)
  replace XT : Hid (Blk w5 T 25 #[.int .i64 1, .int .i64 0, .slice A0 n0 k0, .slice none 0 0]) := Hd (by rw [hA0]; exact XT.out)
  clear hA0
  have c0_ := CB.out.cell 0
  have c1_ := CB.out.cell 1
  have c2_ := CB.out.cell 2
  have c3_ := CB.out.cell 3
  have c4_ := CB.out.cell 4
  have t2_ := XT.out.cell 2
  simp at c0_ c1_ c2_ c3_ c4_ t2_
  clear cb
  go_upto_region 10 with (first | (go_at_call 153; refine (is3D_any 0 false (by decide) _).mono ?_; rintro e w9 ⟨rfl, rfl⟩) | (go_at_call 154; refine (isM_any 0 false (by decide) _).mono ?_; rintro e w9 ⟨rfl, rfl⟩) | (at_builtin; refine wpList_append_any _ rfl _ _ _ rfl 0 73 i0 (.float .f64 0) 1 8 Tryz.underlying22 hi0 hz0 hz1 hz2 rfl (by decide) _ _ _ rfl (OV.out.alloc _) _ _ 2 _ (flV [x, y]) rfl (by exact reads_fl (by first | rfl | omega | simp [World.setCell])) (flV_one _) (by first | (simp only [maxLen, List.length_append, List.length_cons, List.length_nil]; omega) | (simp [maxLen]; done) | (simp [maxLen]; omega)) (by first | (simp only [List.length_append, List.length_cons, List.length_nil]; omega) | (simp; done) | (simp; omega)) (Nat.zero_le _) ?_; intro v1 W1 ho hg hp; have NP := num_push (ys := [x, y]) (base := W.heap.size) XT.out ((Below.refl _ _).alloc (Nat.le_refl _) _) OV.out VB.out (by have := BE.out.size; omega) (by omega) ho hg hp; obtain ⟨xt, ov, vb, be, z1, z2, kp, kq⟩ := NP; obtain ⟨Av, nv, cv, rfl⟩ := own_sl ho; have cb := kp _ _ _ CB.out (by decide) (by omega); have rb := kp _ _ _ RB.out (by decide) (by omega); have be2 := BE.out.trans be;  clear c0_ c1_ c2_ c3_ c4_ t2_; have c0_ := cb.cell 0; have c1_ := cb.cell 1; have c2_ := cb.cell 2; have c3_ := cb.cell 3; have c4_ := cb.cell 4; have t2_ := xt.cell 2; simp at c0_ c1_ c2_ c3_ c4_ t2_; have XT := Hd xt; have OV := Hd ov; have VB := Hd vb; have CB := Hd cb; have RB := Hd rb; have BE := Hd be2; clear ho hg hp kp kq xt ov vb cb rb be be2))
  have u0 := XT.out.cell 0
  have u1 := XT.out.cell 1
  have u2 := XT.out.cell 2
  have u3 := XT.out.cell 3
  have v0 := RB.out.cell 0
  have v1 := RB.out.cell 1
  have v2 := RB.out.cell 2
  have v3 := RB.out.cell 3
  have z0 := RB.out.frozen 0
  have z1 := RB.out.frozen 1
  have z2 := RB.out.frozen 2
  have z3 := RB.out.frozen 3
  simp at u0 u1 u2 u3 v0 v1 v2 v3
  obtain ⟨f0, f1, f2, f3⟩ := cells_four RB.out (.int .i64 1) (.int .i64 0) (.slice Av nv cv) (.slice none 0 0)
  have hne := own_blk_ne OV.out RB.out (by decide)
  have HBX := Hd hne
  clear hne c0_ c1_ c2_ c3_ c4_ t2_
  go_wp2
  refine bodyPost_ret (by simp [results, Tryz.results103, go_sem, f0, f1, f2, f3]; try rfl) rfl ?_
  refine ⟨[.int .i64 1, .int .i64 0, .slice Av nv cv, .slice none 0 0], rfl, plain_made (R := W.heap.size + 1) (a := .int .i64 1) (b := .int .i64 0) (c := .slice Av nv cv) (d := .slice none 0 0) (ns := plNums 0 (x, y, z, m)) (plNums_bits HBN.out) OV.out VB.out HBX.out, below_setCell' (below_setCell' (below_setCell' (below_setCell' BE.out (Nat.le_succ _) _) (Nat.le_succ _) _) (Nat.le_succ _) _) (Nat.le_succ _) _⟩

set_option maxRecDepth 100000 in
theorem plainPoint_1 {x y z m : Nat} (W : World) (hb : x < 18446744073709551616 ∧ y < 18446744073709551616 ∧ z < 18446744073709551616 ∧ m < 18446744073709551616) :
    Calls Tryz.prog 103 #[.agg #[.float .f64 x, .float .f64 y, .float .f64 z, .float .f64 m, .int .u8 1, .bool true]] W fun e w' => ∃ cs, e = .returned (.agg cs.toArray) ∧ GmOn w' (fun b => W.heap.size ≤ b) cs (.mk 1 1 (plNums 1 (x, y, z, m)) []) ∧ Below W.heap.size W w' := by
  obtain ⟨i0, hi0, hz0, hz1, hz2⟩ := info_parts info_f64
  have hct : ∀ w : World, Calls Tryz.prog 94 #[.agg #[.float .f64 x, .float .f64 y, .float .f64 z, .float .f64 m, .int .u8 1, .bool true]] w fun e w' => e = .returned (.int .u8 1) ∧ Below w.heap.size w w' := fun w : World => PtCT_G (ok := fun _ => True) w (show PtG w (fun _ => True) [.float .f64 x, .float .f64 y, .float .f64 z, .float .f64 m, .int .u8 1, .bool true] (.mk 1 1 (plNums 1 (x, y, z, m)) []) from ⟨x, y, z, m, 1, true, rfl, by omega, by omega, hb, rfl⟩)
  have b2 : Below W.heap.size W ((W.alloc (.cells #[.float .f64 x, .float .f64 y, .float .f64 z, .float .f64 m, .int .u8 1, .bool true] 109)).alloc (.cells #[.int .i64 0, .int .i64 0, .slice none 0 0, .slice none 0 0] 25)) := ((Below.refl _ _).alloc (Nat.le_refl _) _).alloc (by simp) _
  have p2 := (Blk.new W 109 #[.float .f64 x, .float .f64 y, .float .f64 z, .float .f64 m, .int .u8 1, .bool true]).alloc (.cells #[.int .i64 0, .int .i64 0, .slice none 0 0, .slice none 0 0] 25)
  have r2 := Blk.new (W.alloc (.cells #[.float .f64 x, .float .f64 y, .float .f64 z, .float .f64 m, .int .u8 1, .bool true] 109)) 25 #[.int .i64 0, .int .i64 0, .slice none 0 0, .slice none 0 0]
  rw [World.size_alloc] at r2
  have B2 := Hd b2
  have P2 := Hd p2
  have R2 := Hd r2
  have HCT := Hd hct
  have HBN := Hd hb
  clear b2 p2 r2 hct hb
  go_enter Tryz.func103, Tryz.ntmps103
  go_wp2_with fail
  refine (HCT.out _).mono ?_
  rintro e w3 ⟨rfl, b3⟩
  have s3 : W.heap.size + 2 ≤ w3.heap.size := by have := b3.size; simpa using this
  have B3 := Hd ((B2.out.trans (b3.mono B2.out.size)).alloc (by omega) (.cells #[.int .i64 1, .int .i64 1, .slice none 0 0, .slice none 0 0] 25))
  have p3 := (P2.out.below b3 P2.out.lt).alloc (.cells #[.int .i64 1, .int .i64 1, .slice none 0 0, .slice none 0 0] 25)
  have R3 := Hd ((R2.out.below b3 R2.out.lt).alloc (.cells #[.int .i64 1, .int .i64 1, .slice none 0 0, .slice none 0 0] 25))
  have T3 := Hd (Blk.new w3 25 #[.int .i64 1, .int .i64 1, .slice none 0 0, .slice none 0 0])
  have hsa : (w3.alloc (.cells #[.int .i64 1, .int .i64 1, .slice none 0 0, .slice none 0 0] 25)).heap.size = w3.heap.size + 1 := World.size_alloc _ _
  have j0 := p3.cell 0
  have j1 := p3.cell 1
  have j2 := p3.cell 2
  have j3 := p3.cell 3
  have j4 := p3.cell 4
  have j5 := p3.cell 5
  simp at j0 j1 j2 j3 j4 j5
  clear b3 p3 HCT P2 R2 B2
  go_wp2_with fail
  refine (PtCoords x y z m 1 true _).mono ?_
  rintro e w4 ⟨rfl, b4⟩
  have s4 : w3.heap.size + 1 ≤ w4.heap.size := by have := b4.size; rw [hsa] at this; exact this
  have b5 : Below W.heap.size W (w4.alloc (.cells #[.float .f64 x, .float .f64 y, .float .f64 z, .float .f64 m, .int .u8 1] 107)) := (B3.out.trans (b4.mono B3.out.size)).alloc (by omega) _
  have RB := Hd ((R3.out.below b4 R3.out.lt).alloc (.cells #[.float .f64 x, .float .f64 y, .float .f64 z, .float .f64 m, .int .u8 1] 107))
  have XT := Hd ((T3.out.below b4 T3.out.lt).alloc (.cells #[.float .f64 x, .float .f64 y, .float .f64 z, .float .f64 m, .int .u8 1] 107))
  have cb := Blk.new w4 107 #[.float .f64 x, .float .f64 y, .float .f64 z, .float .f64 m, .int .u8 1]
  have CB := Hd cb
  have BE := Hd b5
  have hs5 : (w4.alloc (.cells #[.float .f64 x, .float .f64 y, .float .f64 z, .float .f64 m, .int .u8 1] 107)).heap.size = w4.heap.size + 1 := World.size_alloc _ _
  clear b4 b5 B3 R3 T3 j0 j1 j2 j3 j4 j5 hsa
  go_upto_region 5 with fail
  generalize w4.alloc (.cells #[.float .f64 x, .float .f64 y, .float .f64 z, .float .f64 m, .int .u8 1] 107) = w5 at *
  generalize w4.heap.size = C at *
  generalize w3.heap.size = T at *
  obtain ⟨A0, n0, k0, hA0⟩ : ∃ A0 n0 k0, (Value.slice A0 n0 k0) = .slice none 0 0 := ⟨_, _, _, rfl⟩
  have OV : Hid (w5.ownsRow 0 73 1 (.slice A0 n0 k0) ([] : List Nat).length (flV [])) := Hd (by rw [hA0]; exact World.ownsRow_nil _ _ _ _)
  have VB : Hid (∀ b, (Value.slice A0 n0 k0).ownBlock = some b → W.heap.size ≤ b) := Hd (fun b e => by rw [hA0] at e; simp [Value.ownBlock] at e)
  replace XT : Hid (Blk w5 T 25 #[.int .i64 1, .int .i64 1, .slice A0 n0 k0, .slice none 0 0]) := Hd (by rw [hA0]; exact XT.out)
  clear hA0
  have c0_ := CB.out.cell 0
  have c1_ := CB.out.cell 1
  have c2_ := CB.out.cell 2
  have c3_ := CB.out.cell 3
  have c4_ := CB.out.cell 4
  have t2_ := XT.out.cell 2
  simp at c0_ c1_ c2_ c3_ c4_ t2_
  clear cb
  go_upto_region 10 with (first | (go_at_call 153; refine (is3D_any 1 true (by decide) _).mono ?_; rintro e w9 ⟨rfl, rfl⟩) | (go_at_call 154; refine (isM_any 1 false (by decide) _).mono ?_; rintro e w9 ⟨rfl, rfl⟩) | (at_builtin; refine wpList_append_any _ rfl _ _ _ rfl 0 73 i0 (.float .f64 0) 1 8 Tryz.underlying22 hi0 hz0 hz1 hz2 rfl (by decide) _ _ _ rfl (OV.out.alloc _) _ _ 2 _ (flV [x, y]) rfl (by exact reads_fl (by first | rfl | omega | simp [World.setCell])) (flV_one _) (by first | (simp only [maxLen, List.length_append, List.length_cons, List.length_nil]; omega) | (simp [maxLen]; done) | (simp [maxLen]; omega)) (by first | (simp only [List.length_append, List.length_cons, List.length_nil]; omega) | (simp; done) | (simp; omega)) (Nat.zero_le _) ?_; intro v1 W1 ho hg hp; have NP := num_push (ys := [x, y]) (base := W.heap.size) XT.out ((Below.refl _ _).alloc (Nat.le_refl _) _) OV.out VB.out (by have := BE.out.size; omega) (by omega) ho hg hp; obtain ⟨xt, ov, vb, be, z1, z2, kp, kq⟩ := NP; obtain ⟨Av, nv, cv, rfl⟩ := own_sl ho; have cb := kp _ _ _ CB.out (by decide) (by omega); have rb := kp _ _ _ RB.out (by decide) (by omega); have be2 := BE.out.trans be;  clear c0_ c1_ c2_ c3_ c4_ t2_; have c0_ := cb.cell 0; have c1_ := cb.cell 1; have c2_ := cb.cell 2; have c3_ := cb.cell 3; have c4_ := cb.cell 4; have t2_ := xt.cell 2; simp at c0_ c1_ c2_ c3_ c4_ t2_; have XT := Hd xt; have OV := Hd ov; have VB := Hd vb; have CB := Hd cb; have RB := Hd rb; have BE := Hd be2; clear ho hg hp kp kq xt ov vb cb rb be be2) | (at_builtin; refine wpList_append_any _ rfl _ _ _ rfl 0 73 i0 (.float .f64 0) 1 8 Tryz.underlying22 hi0 hz0 hz1 hz2 rfl (by decide) _ _ _ rfl (OV.out.alloc _) _ _ 1 _ (flV [z]) rfl (by exact reads_fl (by first | rfl | omega | simp [World.setCell])) (flV_one _) (by first | (simp only [maxLen, List.length_append, List.length_cons, List.length_nil]; omega) | (simp [maxLen]; done) | (simp [maxLen]; omega)) (by first | (simp only [List.length_append, List.length_cons, List.length_nil]; omega) | (simp; done) | (simp; omega)) (Nat.zero_le _) ?_; intro v1 W1 ho hg hp; have NP := num_push (ys := [z]) (base := W.heap.size) XT.out ((Below.refl _ _).alloc (Nat.le_refl _) _) OV.out VB.out (by have := BE.out.size; omega) (by omega) ho hg hp; obtain ⟨xt, ov, vb, be, z1, z2, kp, kq⟩ := NP; obtain ⟨Av, nv, cv, rfl⟩ := own_sl ho; have cb := kp _ _ _ CB.out (by decide) (by omega); have rb := kp _ _ _ RB.out (by decide) (by omega); have be2 := BE.out.trans be;  clear c0_ c1_ c2_ c3_ c4_ t2_; have c0_ := cb.cell 0; have c1_ := cb.cell 1; have c2_ := cb.cell 2; have c3_ := cb.cell 3; have c4_ := cb.cell 4; have t2_ := xt.cell 2; simp at c0_ c1_ c2_ c3_ c4_ t2_; have XT := Hd xt; have OV := Hd ov; have VB := Hd vb; have CB := Hd cb; have RB := Hd rb; have BE := Hd be2; clear ho hg hp kp kq xt ov vb cb rb be be2))
  have u0 := XT.out.cell 0
  have u1 := XT.out.cell 1
  have u2 := XT.out.cell 2
  have u3 := XT.out.cell 3
  have v0 := RB.out.cell 0
  have v1 := RB.out.cell 1
  have v2 := RB.out.cell 2
  have v3 := RB.out.cell 3
  have z0 := RB.out.frozen 0
  have z1 := RB.out.frozen 1
  have z2 := RB.out.frozen 2
  have z3 := RB.out.frozen 3
  simp at u0 u1 u2 u3 v0 v1 v2 v3
  obtain ⟨f0, f1, f2, f3⟩ := cells_four RB.out (.int .i64 1) (.int .i64 1) (.slice Av nv cv) (.slice none 0 0)
  have hne := own_blk_ne OV.out RB.out (by decide)
  have HBX := Hd hne
  clear hne c0_ c1_ c2_ c3_ c4_ t2_
  go_wp2
  refine bodyPost_ret (by simp [results, Tryz.results103, go_sem, f0, f1, f2, f3]; try rfl) rfl ?_
  refine ⟨[.int .i64 1, .int .i64 1, .slice Av nv cv, .slice none 0 0], rfl, plain_made (R := W.heap.size + 1) (a := .int .i64 1) (b := .int .i64 1) (c := .slice Av nv cv) (d := .slice none 0 0) (ns := plNums 1 (x, y, z, m)) (plNums_bits HBN.out) OV.out VB.out HBX.out, below_setCell' (below_setCell' (below_setCell' (below_setCell' BE.out (Nat.le_succ _) _) (Nat.le_succ _) _) (Nat.le_succ _) _) (Nat.le_succ _) _⟩

set_option maxRecDepth 100000 in
theorem plainPoint_2 {x y z m : Nat} (W : World) (hb : x < 18446744073709551616 ∧ y < 18446744073709551616 ∧ z < 18446744073709551616 ∧ m < 18446744073709551616) :
    Calls Tryz.prog 103 #[.agg #[.float .f64 x, .float .f64 y, .float .f64 z, .float .f64 m, .int .u8 2, .bool true]] W fun e w' => ∃ cs, e = .returned (.agg cs.toArray) ∧ GmOn w' (fun b => W.heap.size ≤ b) cs (.mk 1 2 (plNums 2 (x, y, z, m)) []) ∧ Below W.heap.size W w' := by
  obtain ⟨i0, hi0, hz0, hz1, hz2⟩ := info_parts info_f64
  have hct : ∀ w : World, Calls Tryz.prog 94 #[.agg #[.float .f64 x, .float .f64 y, .float .f64 z, .float .f64 m, .int .u8 2, .bool true]] w fun e w' => e = .returned (.int .u8 2) ∧ Below w.heap.size w w' := fun w : World => PtCT_G (ok := fun _ => True) w (show PtG w (fun _ => True) [.float .f64 x, .float .f64 y, .float .f64 z, .float .f64 m, .int .u8 2, .bool true] (.mk 1 2 (plNums 2 (x, y, z, m)) []) from ⟨x, y, z, m, 2, true, rfl, by omega, by omega, hb, rfl⟩)
  have b2 : Below W.heap.size W ((W.alloc (.cells #[.float .f64 x, .float .f64 y, .float .f64 z, .float .f64 m, .int .u8 2, .bool true] 109)).alloc (.cells #[.int .i64 0, .int .i64 0, .slice none 0 0, .slice none 0 0] 25)) := ((Below.refl _ _).alloc (Nat.le_refl _) _).alloc (by simp) _
  have p2 := (Blk.new W 109 #[.float .f64 x, .float .f64 y, .float .f64 z, .float .f64 m, .int .u8 2, .bool true]).alloc (.cells #[.int .i64 0, .int .i64 0, .slice none 0 0, .slice none 0 0] 25)
  have r2 := Blk.new (W.alloc (.cells #[.float .f64 x, .float .f64 y, .float .f64 z, .float .f64 m, .int .u8 2, .bool true] 109)) 25 #[.int .i64 0, .int .i64 0, .slice none 0 0, .slice none 0 0]
  rw [World.size_alloc] at r2
  have B2 := Hd b2
  have P2 := Hd p2
  have R2 := Hd r2
  have HCT := Hd hct
  have HBN := Hd hb
  clear b2 p2 r2 hct hb
  go_enter Tryz.func103, Tryz.ntmps103
  go_wp2_with fail
  refine (HCT.out _).mono ?_
  rintro e w3 ⟨rfl, b3⟩
  have s3 : W.heap.size + 2 ≤ w3.heap.size := by have := b3.size; simpa using this
  have B3 := Hd ((B2.out.trans (b3.mono B2.out.size)).alloc (by omega) (.cells #[.int .i64 1, .int .i64 2, .slice none 0 0, .slice none 0 0] 25))
  have p3 := (P2.out.below b3 P2.out.lt).alloc (.cells #[.int .i64 1, .int .i64 2, .slice none 0 0, .slice none 0 0] 25)
  have R3 := Hd ((R2.out.below b3 R2.out.lt).alloc (.cells #[.int .i64 1, .int .i64 2, .slice none 0 0, .slice none 0 0] 25))
  have T3 := Hd (Blk.new w3 25 #[.int .i64 1, .int .i64 2, .slice none 0 0, .slice none 0 0])
  have hsa : (w3.alloc (.cells #[.int .i64 1, .int .i64 2, .slice none 0 0, .slice none 0 0] 25)).heap.size = w3.heap.size + 1 := World.size_alloc _ _
  have j0 := p3.cell 0
  have j1 := p3.cell 1
  have j2 := p3.cell 2
  have j3 := p3.cell 3
  have j4 := p3.cell 4
  have j5 := p3.cell 5
  simp at j0 j1 j2 j3 j4 j5
  clear b3 p3 HCT P2 R2 B2
  go_wp2_with fail
  refine (PtCoords x y z m 2 true _).mono ?_
  rintro e w4 ⟨rfl, b4⟩
  have s4 : w3.heap.size + 1 ≤ w4.heap.size := by have := b4.size; rw [hsa] at this; exact this
  have b5 : Below W.heap.size W (w4.alloc (.cells #[.float .f64 x, .float .f64 y, .float .f64 z, .float .f64 m, .int .u8 2] 107)) := (B3.out.trans (b4.mono B3.out.size)).alloc (by omega) _
  have RB := Hd ((R3.out.below b4 R3.out.lt).alloc (.cells #[.float .f64 x, .float .f64 y, .float .f64 z, .float .f64 m, .int .u8 2] 107))
  have XT := Hd ((T3.out.below b4 T3.out.lt).alloc (.cells #[.float .f64 x, .float .f64 y, .float .f64 z, .float .f64 m, .int .u8 2] 107))
  have cb := Blk.new w4 107 #[.float .f64 x, .float .f64 y, .float .f64 z, .float .f64 m, .int .u8 2]
  have CB := Hd cb
  have BE := Hd b5
  have hs5 : (w4.alloc (.cells #[.float .f64 x, .float .f64 y, .float .f64 z, .float .f64 m, .int .u8 2] 107)).heap.size = w4.heap.size + 1 := World.size_alloc _ _
  clear b4 b5 B3 R3 T3 j0 j1 j2 j3 j4 j5 hsa
  go_upto_region 5 with fail
  generalize w4.alloc (.cells #[.float .f64 x, .float .f64 y, .float .f64 z, .float .f64 m, .int .u8 2] 107) = w5 at *
  generalize w4.heap.size = C at *
  generalize w3.heap.size = T at *
  obtain ⟨A0, n0, k0, hA0⟩ : ∃ A0 n0 k0, (Value.slice A0 n0 k0) = .slice none 0 0 := ⟨_, _, _, rfl⟩
  have OV : Hid (w5.ownsRow 0 73 1 (.slice A0 n0 k0) ([] : List Nat).length (flV [])) := Hd (by rw [hA0]; exact World.ownsRow_nil _ _ _ _)
  have VB : Hid (∀ b, (Value.slice A0 n0 k0).ownBlock = some b → W.heap.size ≤ b) := Hd (fun b e => by rw [hA0] at e; simp [Value.ownBlock] at e)
  replace XT : Hid (Blk w5 T 25 #[.int .i64 1, .int .i64 2, .slice A0 n0 k0, .slice none 0 0]) := Hd (by rw [hA0]; exact XT.out)
  clear hA0
  have c0_ := CB.out.cell 0
  have c1_ := CB.out.cell 1
  have c2_ := CB.out.cell 2
  have c3_ := CB.out.cell 3
  have c4_ := CB.out.cell 4
  have t2_ := XT.out.cell 2
  simp at c0_ c1_ c2_ c3_ c4_ t2_
  clear cb
  go_upto_region 10 with (first | (go_at_call 153; refine (is3D_any 2 false (by decide) _).mono ?_; rintro e w9 ⟨rfl, rfl⟩) | (go_at_call 154; refine (isM_any 2 true (by decide) _).mono ?_; rintro e w9 ⟨rfl, rfl⟩) | (at_builtin; refine wpList_append_any _ rfl _ _ _ rfl 0 73 i0 (.float .f64 0) 1 8 Tryz.underlying22 hi0 hz0 hz1 hz2 rfl (by decide) _ _ _ rfl (OV.out.alloc _) _ _ 2 _ (flV [x, y]) rfl (by exact reads_fl (by first | rfl | omega | simp [World.setCell])) (flV_one _) (by first | (simp only [maxLen, List.length_append, List.length_cons, List.length_nil]; omega) | (simp [maxLen]; done) | (simp [maxLen]; omega)) (by first | (simp only [List.length_append, List.length_cons, List.length_nil]; omega) | (simp; done) | (simp; omega)) (Nat.zero_le _) ?_; intro v1 W1 ho hg hp; have NP := num_push (ys := [x, y]) (base := W.heap.size) XT.out ((Below.refl _ _).alloc (Nat.le_refl _) _) OV.out VB.out (by have := BE.out.size; omega) (by omega) ho hg hp; obtain ⟨xt, ov, vb, be, z1, z2, kp, kq⟩ := NP; obtain ⟨Av, nv, cv, rfl⟩ := own_sl ho; have cb := kp _ _ _ CB.out (by decide) (by omega); have rb := kp _ _ _ RB.out (by decide) (by omega); have be2 := BE.out.trans be;  clear c0_ c1_ c2_ c3_ c4_ t2_; have c0_ := cb.cell 0; have c1_ := cb.cell 1; have c2_ := cb.cell 2; have c3_ := cb.cell 3; have c4_ := cb.cell 4; have t2_ := xt.cell 2; simp at c0_ c1_ c2_ c3_ c4_ t2_; have XT := Hd xt; have OV := Hd ov; have VB := Hd vb; have CB := Hd cb; have RB := Hd rb; have BE := Hd be2; clear ho hg hp kp kq xt ov vb cb rb be be2) | (at_builtin; refine wpList_append_any _ rfl _ _ _ rfl 0 73 i0 (.float .f64 0) 1 8 Tryz.underlying22 hi0 hz0 hz1 hz2 rfl (by decide) _ _ _ rfl (OV.out.alloc _) _ _ 1 _ (flV [m]) rfl (by exact reads_fl (by first | rfl | omega | simp [World.setCell])) (flV_one _) (by first | (simp only [maxLen, List.length_append, List.length_cons, List.length_nil]; omega) | (simp [maxLen]; done) | (simp [maxLen]; omega)) (by first | (simp only [List.length_append, List.length_cons, List.length_nil]; omega) | (simp; done) | (simp; omega)) (Nat.zero_le _) ?_; intro v1 W1 ho hg hp; have NP := num_push (ys := [m]) (base := W.heap.size) XT.out ((Below.refl _ _).alloc (Nat.le_refl _) _) OV.out VB.out (by have := BE.out.size; omega) (by omega) ho hg hp; obtain ⟨xt, ov, vb, be, z1, z2, kp, kq⟩ := NP; obtain ⟨Av, nv, cv, rfl⟩ := own_sl ho; have cb := kp _ _ _ CB.out (by decide) (by omega); have rb := kp _ _ _ RB.out (by decide) (by omega); have be2 := BE.out.trans be;  clear c0_ c1_ c2_ c3_ c4_ t2_; have c0_ := cb.cell 0; have c1_ := cb.cell 1; have c2_ := cb.cell 2; have c3_ := cb.cell 3; have c4_ := cb.cell 4; have t2_ := xt.cell 2; simp at c0_ c1_ c2_ c3_ c4_ t2_; have XT := Hd xt; have OV := Hd ov; have VB := Hd vb; have CB := Hd cb; have RB := Hd rb; have BE := Hd be2; clear ho hg hp kp kq xt ov vb cb rb be be2))
  have u0 := XT.out.cell 0
  have u1 := XT.out.cell 1
  have u2 := XT.out.cell 2
  have u3 := XT.out.cell 3
  have v0 := RB.out.cell 0
  have v1 := RB.out.cell 1
  have v2 := RB.out.cell 2
  have v3 := RB.out.cell 3
  have z0 := RB.out.frozen 0
  have z1 := RB.out.frozen 1
  have z2 := RB.out.frozen 2
  have z3 := RB.out.frozen 3
  simp at u0 u1 u2 u3 v0 v1 v2 v3
  obtain ⟨f0, f1, f2, f3⟩ := cells_four RB.out (.int .i64 1) (.int .i64 2) (.slice Av nv cv) (.slice none 0 0)
  have hne := own_blk_ne OV.out RB.out (by decide)
  have HBX := Hd hne
  clear hne c0_ c1_ c2_ c3_ c4_ t2_
  go_wp2
  refine bodyPost_ret (by simp [results, Tryz.results103, go_sem, f0, f1, f2, f3]; try rfl) rfl ?_
  refine ⟨[.int .i64 1, .int .i64 2, .slice Av nv cv, .slice none 0 0], rfl, plain_made (R := W.heap.size + 1) (a := .int .i64 1) (b := .int .i64 2) (c := .slice Av nv cv) (d := .slice none 0 0) (ns := plNums 2 (x, y, z, m)) (plNums_bits HBN.out) OV.out VB.out HBX.out, below_setCell' (below_setCell' (below_setCell' (below_setCell' BE.out (Nat.le_succ _) _) (Nat.le_succ _) _) (Nat.le_succ _) _) (Nat.le_succ _) _⟩

set_option maxRecDepth 100000 in
theorem plainPoint_3 {x y z m : Nat} (W : World) (hb : x < 18446744073709551616 ∧ y < 18446744073709551616 ∧ z < 18446744073709551616 ∧ m < 18446744073709551616) :
    Calls Tryz.prog 103 #[.agg #[.float .f64 x, .float .f64 y, .float .f64 z, .float .f64 m, .int .u8 3, .bool true]] W fun e w' => ∃ cs, e = .returned (.agg cs.toArray) ∧ GmOn w' (fun b => W.heap.size ≤ b) cs (.mk 1 3 (plNums 3 (x, y, z, m)) []) ∧ Below W.heap.size W w' := by
  obtain ⟨i0, hi0, hz0, hz1, hz2⟩ := info_parts info_f64
  have hct : ∀ w : World, Calls Tryz.prog 94 #[.agg #[.float .f64 x, .float .f64 y, .float .f64 z, .float .f64 m, .int .u8 3, .bool true]] w fun e w' => e = .returned (.int .u8 3) ∧ Below w.heap.size w w' := fun w : World => PtCT_G (ok := fun _ => True) w (show PtG w (fun _ => True) [.float .f64 x, .float .f64 y, .float .f64 z, .float .f64 m, .int .u8 3, .bool true] (.mk 1 3 (plNums 3 (x, y, z, m)) []) from ⟨x, y, z, m, 3, true, rfl, by omega, by omega, hb, rfl⟩)
  have b2 : Below W.heap.size W ((W.alloc (.cells #[.float .f64 x, .float .f64 y, .float .f64 z, .float .f64 m, .int .u8 3, .bool true] 109)).alloc (.cells #[.int .i64 0, .int .i64 0, .slice none 0 0, .slice none 0 0] 25)) := ((Below.refl _ _).alloc (Nat.le_refl _) _).alloc (by simp) _
  have p2 := (Blk.new W 109 #[.float .f64 x, .float .f64 y, .float .f64 z, .float .f64 m, .int .u8 3, .bool true]).alloc (.cells #[.int .i64 0, .int .i64 0, .slice none 0 0, .slice none 0 0] 25)
  have r2 := Blk.new (W.alloc (.cells #[.float .f64 x, .float .f64 y, .float .f64 z, .float .f64 m, .int .u8 3, .bool true] 109)) 25 #[.int .i64 0, .int .i64 0, .slice none 0 0, .slice none 0 0]
  rw [World.size_alloc] at r2
  have B2 := Hd b2
  have P2 := Hd p2
  have R2 := Hd r2
  have HCT := Hd hct
  have HBN := Hd hb
  clear b2 p2 r2 hct hb
  go_enter Tryz.func103, Tryz.ntmps103
  go_wp2_with fail
  refine (HCT.out _).mono ?_
  rintro e w3 ⟨rfl, b3⟩
  have s3 : W.heap.size + 2 ≤ w3.heap.size := by have := b3.size; simpa using this
  have B3 := Hd ((B2.out.trans (b3.mono B2.out.size)).alloc (by omega) (.cells #[.int .i64 1, .int .i64 3, .slice none 0 0, .slice none 0 0] 25))
  have p3 := (P2.out.below b3 P2.out.lt).alloc (.cells #[.int .i64 1, .int .i64 3, .slice none 0 0, .slice none 0 0] 25)
  have R3 := Hd ((R2.out.below b3 R2.out.lt).alloc (.cells #[.int .i64 1, .int .i64 3, .slice none 0 0, .slice none 0 0] 25))
  have T3 := Hd (Blk.new w3 25 #[.int .i64 1, .int .i64 3, .slice none 0 0, .slice none 0 0])
  have hsa : (w3.alloc (.cells #[.int .i64 1, .int .i64 3, .slice none 0 0, .slice none 0 0] 25)).heap.size = w3.heap.size + 1 := World.size_alloc _ _
  have j0 := p3.cell 0
  have j1 := p3.cell 1
  have j2 := p3.cell 2
  have j3 := p3.cell 3
  have j4 := p3.cell 4
  have j5 := p3.cell 5
  simp at j0 j1 j2 j3 j4 j5
  clear b3 p3 HCT P2 R2 B2
  go_wp2_with fail
  refine (PtCoords x y z m 3 true _).mono ?_
  rintro e w4 ⟨rfl, b4⟩
  have s4 : w3.heap.size + 1 ≤ w4.heap.size := by have := b4.size; rw [hsa] at this; exact this
  have b5 : Below W.heap.size W (w4.alloc (.cells #[.float .f64 x, .float .f64 y, .float .f64 z, .float .f64 m, .int .u8 3] 107)) := (B3.out.trans (b4.mono B3.out.size)).alloc (by omega) _
  have RB := Hd ((R3.out.below b4 R3.out.lt).alloc (.cells #[.float .f64 x, .float .f64 y, .float .f64 z, .float .f64 m, .int .u8 3] 107))
  have XT := Hd ((T3.out.below b4 T3.out.lt).alloc (.cells #[.float .f64 x, .float .f64 y, .float .f64 z, .float .f64 m, .int .u8 3] 107))
  have cb := Blk.new w4 107 #[.float .f64 x, .float .f64 y, .float .f64 z, .float .f64 m, .int .u8 3]
  have CB := Hd cb
  have BE := Hd b5
  have hs5 : (w4.alloc (.cells #[.float .f64 x, .float .f64 y, .float .f64 z, .float .f64 m, .int .u8 3] 107)).heap.size = w4.heap.size + 1 := World.size_alloc _ _
  clear b4 b5 B3 R3 T3 j0 j1 j2 j3 j4 j5 hsa
  go_upto_region 5 with fail
  generalize w4.alloc (.cells #[.float .f64 x, .float .f64 y, .float .f64 z, .float .f64 m, .int .u8 3] 107) = w5 at *
  generalize w4.heap.size = C at *
  generalize w3.heap.size = T at *
  obtain ⟨A0, n0, k0, hA0⟩ : ∃ A0 n0 k0, (Value.slice A0 n0 k0) = .slice none 0 0 := ⟨_, _, _, rfl⟩
  have OV : Hid (w5.ownsRow 0 73 1 (.slice A0 n0 k0) ([] : List Nat).length (flV [])) := Hd (by rw [hA0]; exact World.ownsRow_nil _ _ _ _)
  have VB : Hid (∀ b, (Value.slice A0 n0 k0).ownBlock = some b → W.heap.size ≤ b) := Hd (fun b e => by rw [hA0] at e; simp [Value.ownBlock] at e)
  replace XT : Hid (Blk w5 T 25 #[.int .i64 1, .int .i64 3, .slice A0 n0 k0, .slice none 0 0]) := Hd (by rw [hA0]; exact XT.out)
  clear hA0
  have c0_ := CB.out.cell 0
  have c1_ := CB.out.cell 1
  have c2_ := CB.out.cell 2
  have c3_ := CB.out.cell 3
  have c4_ := CB.out.cell 4
  have t2_ := XT.out.cell 2
  simp at c0_ c1_ c2_ c3_ c4_ t2_
  clear cb
  go_upto_region 10 with (first | (go_at_call 153; refine (is3D_any 3 true (by decide) _).mono ?_; rintro e w9 ⟨rfl, rfl⟩) | (go_at_call 154; refine (isM_any 3 true (by decide) _).mono ?_; rintro e w9 ⟨rfl, rfl⟩) | (at_builtin; refine wpList_append_any _ rfl _ _ _ rfl 0 73 i0 (.float .f64 0) 1 8 Tryz.underlying22 hi0 hz0 hz1 hz2 rfl (by decide) _ _ _ rfl (OV.out.alloc _) _ _ 2 _ (flV [x, y]) rfl (by exact reads_fl (by first | rfl | omega | simp [World.setCell])) (flV_one _) (by first | (simp only [maxLen, List.length_append, List.length_cons, List.length_nil]; omega) | (simp [maxLen]; done) | (simp [maxLen]; omega)) (by first | (simp only [List.length_append, List.length_cons, List.length_nil]; omega) | (simp; done) | (simp; omega)) (Nat.zero_le _) ?_; intro v1 W1 ho hg hp; have NP := num_push (ys := [x, y]) (base := W.heap.size) XT.out ((Below.refl _ _).alloc (Nat.le_refl _) _) OV.out VB.out (by have := BE.out.size; omega) (by omega) ho hg hp; obtain ⟨xt, ov, vb, be, z1, z2, kp, kq⟩ := NP; obtain ⟨Av, nv, cv, rfl⟩ := own_sl ho; have cb := kp _ _ _ CB.out (by decide) (by omega); have rb := kp _ _ _ RB.out (by decide) (by omega); have be2 := BE.out.trans be;  clear c0_ c1_ c2_ c3_ c4_ t2_; have c0_ := cb.cell 0; have c1_ := cb.cell 1; have c2_ := cb.cell 2; have c3_ := cb.cell 3; have c4_ := cb.cell 4; have t2_ := xt.cell 2; simp at c0_ c1_ c2_ c3_ c4_ t2_; have XT := Hd xt; have OV := Hd ov; have VB := Hd vb; have CB := Hd cb; have RB := Hd rb; have BE := Hd be2; clear ho hg hp kp kq xt ov vb cb rb be be2) | (at_builtin; refine wpList_append_any _ rfl _ _ _ rfl 0 73 i0 (.float .f64 0) 1 8 Tryz.underlying22 hi0 hz0 hz1 hz2 rfl (by decide) _ _ _ rfl (OV.out.alloc _) _ _ 1 _ (flV [z]) rfl (by exact reads_fl (by first | rfl | omega | simp [World.setCell])) (flV_one _) (by first | (simp only [maxLen, List.length_append, List.length_cons, List.length_nil]; omega) | (simp [maxLen]; done) | (simp [maxLen]; omega)) (by first | (simp only [List.length_append, List.length_cons, List.length_nil]; omega) | (simp; done) | (simp; omega)) (Nat.zero_le _) ?_; intro v1 W1 ho hg hp; have NP := num_push (ys := [z]) (base := W.heap.size) XT.out ((Below.refl _ _).alloc (Nat.le_refl _) _) OV.out VB.out (by have := BE.out.size; omega) (by omega) ho hg hp; obtain ⟨xt, ov, vb, be, z1, z2, kp, kq⟩ := NP; obtain ⟨Av, nv, cv, rfl⟩ := own_sl ho; have cb := kp _ _ _ CB.out (by decide) (by omega); have rb := kp _ _ _ RB.out (by decide) (by omega); have be2 := BE.out.trans be;  clear c0_ c1_ c2_ c3_ c4_ t2_; have c0_ := cb.cell 0; have c1_ := cb.cell 1; have c2_ := cb.cell 2; have c3_ := cb.cell 3; have c4_ := cb.cell 4; have t2_ := xt.cell 2; simp at c0_ c1_ c2_ c3_ c4_ t2_; have XT := Hd xt; have OV := Hd ov; have VB := Hd vb; have CB := Hd cb; have RB := Hd rb; have BE := Hd be2; clear ho hg hp kp kq xt ov vb cb rb be be2) | (at_builtin; refine wpList_append_any _ rfl _ _ _ rfl 0 73 i0 (.float .f64 0) 1 8 Tryz.underlying22 hi0 hz0 hz1 hz2 rfl (by decide) _ _ _ rfl (OV.out.alloc _) _ _ 1 _ (flV [m]) rfl (by exact reads_fl (by first | rfl | omega | simp [World.setCell])) (flV_one _) (by first | (simp only [maxLen, List.length_append, List.length_cons, List.length_nil]; omega) | (simp [maxLen]; done) | (simp [maxLen]; omega)) (by first | (simp only [List.length_append, List.length_cons, List.length_nil]; omega) | (simp; done) | (simp; omega)) (Nat.zero_le _) ?_; intro v1 W1 ho hg hp; have NP := num_push (ys := [m]) (base := W.heap.size) XT.out ((Below.refl _ _).alloc (Nat.le_refl _) _) OV.out VB.out (by have := BE.out.size; omega) (by omega) ho hg hp; obtain ⟨xt, ov, vb, be, z1, z2, kp, kq⟩ := NP; obtain ⟨Av, nv, cv, rfl⟩ := own_sl ho; have cb := kp _ _ _ CB.out (by decide) (by omega); have rb := kp _ _ _ RB.out (by decide) (by omega); have be2 := BE.out.trans be;  clear c0_ c1_ c2_ c3_ c4_ t2_; have c0_ := cb.cell 0; have c1_ := cb.cell 1; have c2_ := cb.cell 2; have c3_ := cb.cell 3; have c4_ := cb.cell 4; have t2_ := xt.cell 2; simp at c0_ c1_ c2_ c3_ c4_ t2_; have XT := Hd xt; have OV := Hd ov; have VB := Hd vb; have CB := Hd cb; have RB := Hd rb; have BE := Hd be2; clear ho hg hp kp kq xt ov vb cb rb be be2))
  have u0 := XT.out.cell 0
  have u1 := XT.out.cell 1
  have u2 := XT.out.cell 2
  have u3 := XT.out.cell 3
  have v0 := RB.out.cell 0
  have v1 := RB.out.cell 1
  have v2 := RB.out.cell 2
  have v3 := RB.out.cell 3
  have z0 := RB.out.frozen 0
  have z1 := RB.out.frozen 1
  have z2 := RB.out.frozen 2
  have z3 := RB.out.frozen 3
  simp at u0 u1 u2 u3 v0 v1 v2 v3
  obtain ⟨f0, f1, f2, f3⟩ := cells_four RB.out (.int .i64 1) (.int .i64 3) (.slice Av nv cv) (.slice none 0 0)
  have hne := own_blk_ne OV.out RB.out (by decide)
  have HBX := Hd hne
  clear hne c0_ c1_ c2_ c3_ c4_ t2_
  go_wp2
  refine bodyPost_ret (by simp [results, Tryz.results103, go_sem, f0, f1, f2, f3]; try rfl) rfl ?_
  refine ⟨[.int .i64 1, .int .i64 3, .slice Av nv cv, .slice none 0 0], rfl, plain_made (R := W.heap.size + 1) (a := .int .i64 1) (b := .int .i64 3) (c := .slice Av nv cv) (d := .slice none 0 0) (ns := plNums 3 (x, y, z, m)) (plNums_bits HBN.out) OV.out VB.out HBX.out, below_setCell' (below_setCell' (below_setCell' (below_setCell' BE.out (Nat.le_succ _) _) (Nat.le_succ _) _) (Nat.le_succ _) _) (Nat.le_succ _) _⟩

set_option maxRecDepth 100000 in
theorem plainPoint_0e {x y z m : Nat} (W : World) (hb : x < 18446744073709551616 ∧ y < 18446744073709551616 ∧ z < 18446744073709551616 ∧ m < 18446744073709551616) :
    Calls Tryz.prog 103 #[.agg #[.float .f64 x, .float .f64 y, .float .f64 z, .float .f64 m, .int .u8 0, .bool false]] W fun e w' => ∃ cs, e = .returned (.agg cs.toArray) ∧ GmOn w' (fun b => W.heap.size ≤ b) cs (.mk 1 0 [] []) ∧ Below W.heap.size W w' := by
  obtain ⟨i0, hi0, hz0, hz1, hz2⟩ := info_parts info_f64
  have hct : ∀ w : World, Calls Tryz.prog 94 #[.agg #[.float .f64 x, .float .f64 y, .float .f64 z, .float .f64 m, .int .u8 0, .bool false]] w fun e w' => e = .returned (.int .u8 0) ∧ Below w.heap.size w w' := fun w : World => PtCT_G (ok := fun _ => True) w (show PtG w (fun _ => True) [.float .f64 x, .float .f64 y, .float .f64 z, .float .f64 m, .int .u8 0, .bool false] (.mk 1 0 [] []) from ⟨x, y, z, m, 0, false, rfl, by omega, by omega, hb, by simp⟩)
  have b2 : Below W.heap.size W ((W.alloc (.cells #[.float .f64 x, .float .f64 y, .float .f64 z, .float .f64 m, .int .u8 0, .bool false] 109)).alloc (.cells #[.int .i64 0, .int .i64 0, .slice none 0 0, .slice none 0 0] 25)) := ((Below.refl _ _).alloc (Nat.le_refl _) _).alloc (by simp) _
  have p2 := (Blk.new W 109 #[.float .f64 x, .float .f64 y, .float .f64 z, .float .f64 m, .int .u8 0, .bool false]).alloc (.cells #[.int .i64 0, .int .i64 0, .slice none 0 0, .slice none 0 0] 25)
  have r2 := Blk.new (W.alloc (.cells #[.float .f64 x, .float .f64 y, .float .f64 z, .float .f64 m, .int .u8 0, .bool false] 109)) 25 #[.int .i64 0, .int .i64 0, .slice none 0 0, .slice none 0 0]
  rw [World.size_alloc] at r2
  have B2 := Hd b2
  have P2 := Hd p2
  have R2 := Hd r2
  have HCT := Hd hct
  have HBN := Hd hb
  clear b2 p2 r2 hct hb
  go_enter Tryz.func103, Tryz.ntmps103
  go_wp2_with fail
  refine (HCT.out _).mono ?_
  rintro e w3 ⟨rfl, b3⟩
  have s3 : W.heap.size + 2 ≤ w3.heap.size := by have := b3.size; simpa using this
  have B3 := Hd ((B2.out.trans (b3.mono B2.out.size)).alloc (by omega) (.cells #[.int .i64 1, .int .i64 0, .slice none 0 0, .slice none 0 0] 25))
  have p3 := (P2.out.below b3 P2.out.lt).alloc (.cells #[.int .i64 1, .int .i64 0, .slice none 0 0, .slice none 0 0] 25)
  have R3 := Hd ((R2.out.below b3 R2.out.lt).alloc (.cells #[.int .i64 1, .int .i64 0, .slice none 0 0, .slice none 0 0] 25))
  have T3 := Hd (Blk.new w3 25 #[.int .i64 1, .int .i64 0, .slice none 0 0, .slice none 0 0])
  have hsa : (w3.alloc (.cells #[.int .i64 1, .int .i64 0, .slice none 0 0, .slice none 0 0] 25)).heap.size = w3.heap.size + 1 := World.size_alloc _ _
  have j0 := p3.cell 0
  have j1 := p3.cell 1
  have j2 := p3.cell 2
  have j3 := p3.cell 3
  have j4 := p3.cell 4
  have j5 := p3.cell 5
  simp at j0 j1 j2 j3 j4 j5
  clear b3 p3 HCT P2 R2 B2
  go_wp2_with fail
  refine (PtCoords x y z m 0 false _).mono ?_
  rintro e w4 ⟨rfl, b4⟩
  have s4 : w3.heap.size + 1 ≤ w4.heap.size := by have := b4.size; rw [hsa] at this; exact this
  have b5 : Below W.heap.size W (w4.alloc (.cells #[.float .f64 x, .float .f64 y, .float .f64 z, .float .f64 m, .int .u8 0] 107)) := (B3.out.trans (b4.mono B3.out.size)).alloc (by omega) _
  have RB := Hd ((R3.out.below b4 R3.out.lt).alloc (.cells #[.float .f64 x, .float .f64 y, .float .f64 z, .float .f64 m, .int .u8 0] 107))
  have XT := Hd ((T3.out.below b4 T3.out.lt).alloc (.cells #[.float .f64 x, .float .f64 y, .float .f64 z, .float .f64 m, .int .u8 0] 107))
  have cb := Blk.new w4 107 #[.float .f64 x, .float .f64 y, .float .f64 z, .float .f64 m, .int .u8 0]
  have CB := Hd cb
  have BE := Hd b5
  have hs5 : (w4.alloc (.cells #[.float .f64 x, .float .f64 y, .float .f64 z, .float .f64 m, .int .u8 0] 107)).heap.size = w4.heap.size + 1 := World.size_alloc _ _
  clear b4 b5 B3 R3 T3 j0 j1 j2 j3 j4 j5 hsa
  go_upto_region 4 with fail
  generalize w4.alloc (.cells #[.float .f64 x, .float .f64 y, .float .f64 z, .float .f64 m, .int .u8 0] 107) = w5 at *
  generalize w4.heap.size = C at *
  generalize w3.heap.size = T at *
  clear cb
  have u0 := XT.out.cell 0
  have u1 := XT.out.cell 1
  have u2 := XT.out.cell 2
  have u3 := XT.out.cell 3
  have v0 := RB.out.cell 0
  have v1 := RB.out.cell 1
  have v2 := RB.out.cell 2
  have v3 := RB.out.cell 3
  have z0 := RB.out.frozen 0
  have z1 := RB.out.frozen 1
  have z2 := RB.out.frozen 2
  have z3 := RB.out.frozen 3
  simp at u0 u1 u2 u3 v0 v1 v2 v3
  obtain ⟨f0, f1, f2, f3⟩ := cells_four RB.out (.int .i64 1) (.int .i64 0) (.slice none 0 0) (.slice none 0 0)
  go_wp2
  refine bodyPost_ret (by simp [results, Tryz.results103, go_sem, f0, f1, f2, f3]; try rfl) rfl ?_
  refine ⟨[.int .i64 1, .int .i64 0, .slice none 0 0, .slice none 0 0], rfl, plain_made (R := W.heap.size + 1) (a := .int .i64 1) (b := .int .i64 0) (c := .slice none 0 0) (d := .slice none 0 0) (ns := []) (by simp) (World.ownsRow_nil _ _ _ _) (fun b e => by simp [Value.ownBlock] at e) (by simp [Value.ownBlock]), below_setCell' (below_setCell' (below_setCell' (below_setCell' BE.out (Nat.le_succ _) _) (Nat.le_succ _) _) (Nat.le_succ _) _) (Nat.le_succ _) _⟩

set_option maxRecDepth 100000 in
theorem plainPoint_1e {x y z m : Nat} (W : World) (hb : x < 18446744073709551616 ∧ y < 18446744073709551616 ∧ z < 18446744073709551616 ∧ m < 18446744073709551616) :
    Calls Tryz.prog 103 #[.agg #[.float .f64 x, .float .f64 y, .float .f64 z, .float .f64 m, .int .u8 1, .bool false]] W fun e w' => ∃ cs, e = .returned (.agg cs.toArray) ∧ GmOn w' (fun b => W.heap.size ≤ b) cs (.mk 1 1 [] []) ∧ Below W.heap.size W w' := by
  obtain ⟨i0, hi0, hz0, hz1, hz2⟩ := info_parts info_f64
  have hct : ∀ w : World, Calls Tryz.prog 94 #[.agg #[.float .f64 x, .float .f64 y, .float .f64 z, .float .f64 m, .int .u8 1, .bool false]] w fun e w' => e = .returned (.int .u8 1) ∧ Below w.heap.size w w' := fun w : World => PtCT_G (ok := fun _ => True) w (show PtG w (fun _ => True) [.float .f64 x, .float .f64 y, .float .f64 z, .float .f64 m, .int .u8 1, .bool false] (.mk 1 1 [] []) from ⟨x, y, z, m, 1, false, rfl, by omega, by omega, hb, by simp⟩)
  have b2 : Below W.heap.size W ((W.alloc (.cells #[.float .f64 x, .float .f64 y, .float .f64 z, .float .f64 m, .int .u8 1, .bool false] 109)).alloc (.cells #[.int .i64 0, .int .i64 0, .slice none 0 0, .slice none 0 0] 25)) := ((Below.refl _ _).alloc (Nat.le_refl _) _).alloc (by simp) _
  have p2 := (Blk.new W 109 #[.float .f64 x, .float .f64 y, .float .f64 z, .float .f64 m, .int .u8 1, .bool false]).alloc (.cells #[.int .i64 0, .int .i64 0, .slice none 0 0, .slice none 0 0] 25)
  have r2 := Blk.new (W.alloc (.cells #[.float .f64 x, .float .f64 y, .float .f64 z, .float .f64 m, .int .u8 1, .bool false] 109)) 25 #[.int .i64 0, .int .i64 0, .slice none 0 0, .slice none 0 0]
  rw [World.size_alloc] at r2
  have B2 := Hd b2
  have P2 := Hd p2
  have R2 := Hd r2
  have HCT := Hd hct
  have HBN := Hd hb
  clear b2 p2 r2 hct hb
  go_enter Tryz.func103, Tryz.ntmps103
  go_wp2_with fail
  refine (HCT.out _).mono ?_
  rintro e w3 ⟨rfl, b3⟩
  have s3 : W.heap.size + 2 ≤ w3.heap.size := by have := b3.size; simpa using this
  have B3 := Hd ((B2.out.trans (b3.mono B2.out.size)).alloc (by omega) (.cells #[.int .i64 1, .int .i64 1, .slice none 0 0, .slice none 0 0] 25))
  have p3 := (P2.out.below b3 P2.out.lt).alloc (.cells #[.int .i64 1, .int .i64 1, .slice none 0 0, .slice none 0 0] 25)
  have R3 := Hd ((R2.out.below b3 R2.out.lt).alloc (.cells #[.int .i64 1, .int .i64 1, .slice none 0 0, .slice none 0 0] 25))
  have T3 := Hd (Blk.new w3 25 #[.int .i64 1, .int .i64 1, .slice none 0 0, .slice none 0 0])
  have hsa : (w3.alloc (.cells #[.int .i64 1, .int .i64 1, .slice none 0 0, .slice none 0 0] 25)).heap.size = w3.heap.size + 1 := World.size_alloc _ _
  have j0 := p3.cell 0
  have j1 := p3.cell 1
  have j2 := p3.cell 2
  have j3 := p3.cell 3
  have j4 := p3.cell 4
  have j5 := p3.cell 5
  simp at j0 j1 j2 j3 j4 j5
  clear b3 p3 HCT P2 R2 B2
  go_wp2_with fail
  refine (PtCoords x y z m 1 false _).mono ?_
  rintro e w4 ⟨rfl, b4⟩
  have s4 : w3.heap.size + 1 ≤ w4.heap.size := by have := b4.size; rw [hsa] at this; exact this
  have b5 : Below W.heap.size W (w4.alloc (.cells #[.float .f64 x, .float .f64 y, .float .f64 z, .float .f64 m, .int .u8 1] 107)) := (B3.out.trans (b4.mono B3.out.size)).alloc (by omega) _
  have RB := Hd ((R3.out.below b4 R3.out.lt).alloc (.cells #[.float .f64 x, .float .f64 y, .float .f64 z, .float .f64 m, .int .u8 1] 107))
  have XT := Hd ((T3.out.below b4 T3.out.lt).alloc (.cells #[.float .f64 x, .float .f64 y, .float .f64 z, .float .f64 m, .int .u8 1] 107))
  have cb := Blk.new w4 107 #[.float .f64 x, .float .f64 y, .float .f64 z, .float .f64 m, .int .u8 1]
  have CB := Hd cb
  have BE := Hd b5
  have hs5 : (w4.alloc (.cells #[.float .f64 x, .float .f64 y, .float .f64 z, .float .f64 m, .int .u8 1] 107)).heap.size = w4.heap.size + 1 := World.size_alloc _ _
  clear b4 b5 B3 R3 T3 j0 j1 j2 j3 j4 j5 hsa
  go_upto_region 4 with fail
  generalize w4.alloc (.cells #[.float .f64 x, .float .f64 y, .float .f64 z, .float .f64 m, .int .u8 1] 107) = w5 at *
  generalize w4.heap.size = C at *
  generalize w3.heap.size = T at *
  clear cb
  have u0 := XT.out.cell 0
  have u1 := XT.out.cell 1
  have u2 := XT.out.cell 2
  have u3 := XT.out.cell 3
  have v0 := RB.out.cell 0
  have v1 := RB.out.cell 1
  have v2 := RB.out.cell 2
  have v3 := RB.out.cell 3
  have z0 := RB.out.frozen 0
  have z1 := RB.out.frozen 1
  have z2 := RB.out.frozen 2
  have z3 := RB.out.frozen 3
  simp at u0 u1 u2 u3 v0 v1 v2 v3
  obtain ⟨f0, f1, f2, f3⟩ := cells_four RB.out (.int .i64 1) (.int .i64 1) (.slice none 0 0) (.slice none 0 0)
  go_wp2
  refine bodyPost_ret (by simp [results, Tryz.results103, go_sem, f0, f1, f2, f3]; try rfl) rfl ?_
  refine ⟨[.int .i64 1, .int .i64 1, .slice none 0 0, .slice none 0 0], rfl, plain_made (R := W.heap.size + 1) (a := .int .i64 1) (b := .int .i64 1) (c := .slice none 0 0) (d := .slice none 0 0) (ns := []) (by simp) (World.ownsRow_nil _ _ _ _) (fun b e => by simp [Value.ownBlock] at e) (by simp [Value.ownBlock]), below_setCell' (below_setCell' (below_setCell' (below_setCell' BE.out (Nat.le_succ _) _) (Nat.le_succ _) _) (Nat.le_succ _) _) (Nat.le_succ _) _⟩

set_option maxRecDepth 100000 in
theorem plainPoint_2e {x y z m : Nat} (W : World) (hb : x < 18446744073709551616 ∧ y < 18446744073709551616 ∧ z < 18446744073709551616 ∧ m < 18446744073709551616) :
    Calls Tryz.prog 103 #[.agg #[.float .f64 x, .float .f64 y, .float .f64 z, .float .f64 m, .int .u8 2, .bool false]] W fun e w' => ∃ cs, e = .returned (.agg cs.toArray) ∧ GmOn w' (fun b => W.heap.size ≤ b) cs (.mk 1 2 [] []) ∧ Below W.heap.size W w' := by
  obtain ⟨i0, hi0, hz0, hz1, hz2⟩ := info_parts info_f64
  have hct : ∀ w : World, Calls Tryz.prog 94 #[.agg #[.float .f64 x, .float .f64 y, .float .f64 z, .float .f64 m, .int .u8 2, .bool false]] w fun e w' => e = .returned (.int .u8 2) ∧ Below w.heap.size w w' := fun w : World => PtCT_G (ok := fun _ => True) w (show PtG w (fun _ => True) [.float .f64 x, .float .f64 y, .float .f64 z, .float .f64 m, .int .u8 2, .bool false] (.mk 1 2 [] []) from ⟨x, y, z, m, 2, false, rfl, by omega, by omega, hb, by simp⟩)
  have b2 : Below W.heap.size W ((W.alloc (.cells #[.float .f64 x, .float .f64 y, .float .f64 z, .float .f64 m, .int .u8 2, .bool false] 109)).alloc (.cells #[.int .i64 0, .int .i64 0, .slice none 0 0, .slice none 0 0] 25)) := ((Below.refl _ _).alloc (Nat.le_refl _) _).alloc (by simp) _
  have p2 := (Blk.new W 109 #[.float .f64 x, .float .f64 y, .float .f64 z, .float .f64 m, .int .u8 2, .bool false]).alloc (.cells #[.int .i64 0, .int .i64 0, .slice none 0 0, .slice none 0 0] 25)
  have r2 := Blk.new (W.alloc (.cells #[.float .f64 x, .float .f64 y, .float .f64 z, .float .f64 m, .int .u8 2, .bool false] 109)) 25 #[.int .i64 0, .int .i64 0, .slice none 0 0, .slice none 0 0]
  rw [World.size_alloc] at r2
  have B2 := Hd b2
  have P2 := Hd p2
  have R2 := Hd r2
  have HCT := Hd hct
  have HBN := Hd hb
  clear b2 p2 r2 hct hb
  go_enter Tryz.func103, Tryz.ntmps103
  go_wp2_with fail
  refine (HCT.out _).mono ?_
  rintro e w3 ⟨rfl, b3⟩
  have s3 : W.heap.size + 2 ≤ w3.heap.size := by have := b3.size; simpa using this
  have B3 := Hd ((B2.out.trans (b3.mono B2.out.size)).alloc (by omega) (.cells #[.int .i64 1, .int .i64 2, .slice none 0 0, .slice none 0 0] 25))
  have p3 := (P2.out.below b3 P2.out.lt).alloc (.cells #[.int .i64 1, .int .i64 2, .slice none 0 0, .slice none 0 0] 25)
  have R3 := Hd ((R2.out.below b3 R2.out.lt).alloc (.cells #[.int .i64 1, .int .i64 2, .slice none 0 0, .slice none 0 0] 25))
  have T3 := Hd (Blk.new w3 25 #[.int .i64 1, .int .i64 2, .slice none 0 0, .slice none 0 0])
  have hsa : (w3.alloc (.cells #[.int .i64 1, .int .i64 2, .slice none 0 0, .slice none 0 0] 25)).heap.size = w3.heap.size + 1 := World.size_alloc _ _
  have j0 := p3.cell 0
  have j1 := p3.cell 1
  have j2 := p3.cell 2
  have j3 := p3.cell 3
  have j4 := p3.cell 4
  have j5 := p3.cell 5
  simp at j0 j1 j2 j3 j4 j5
  clear b3 p3 HCT P2 R2 B2
  go_wp2_with fail
  refine (PtCoords x y z m 2 false _).mono ?_
  rintro e w4 ⟨rfl, b4⟩
  have s4 : w3.heap.size + 1 ≤ w4.heap.size := by have := b4.size; rw [hsa] at this; exact this
  have b5 : Below W.heap.size W (w4.alloc (.cells #[.float .f64 x, .float .f64 y, .float .f64 z, .float .f64 m, .int .u8 2] 107)) := (B3.out.trans (b4.mono B3.out.size)).alloc (by omega) _
  have RB := Hd ((R3.out.below b4 R3.out.lt).alloc (.cells #[.float .f64 x, .float .f64 y, .float .f64 z, .float .f64 m, .int .u8 2] 107))
  have XT := Hd ((T3.out.below b4 T3.out.lt).alloc (.cells #[.float .f64 x, .float .f64 y, .float .f64 z, .float .f64 m, .int .u8 2] 107))
  have cb := Blk.new w4 107 #[.float .f64 x, .float .f64 y, .float .f64 z, .float .f64 m, .int .u8 2]
  have CB := Hd cb
  have BE := Hd b5
  have hs5 : (w4.alloc (.cells #[.float .f64 x, .float .f64 y, .float .f64 z, .float .f64 m, .int .u8 2] 107)).heap.size = w4.heap.size + 1 := World.size_alloc _ _
  clear b4 b5 B3 R3 T3 j0 j1 j2 j3 j4 j5 hsa
  go_upto_region 4 with fail
  generalize w4.alloc (.cells #[.float .f64 x, .float .f64 y, .float .f64 z, .float .f64 m, .int .u8 2] 107) = w5 at *
  generalize w4.heap.size = C at *
  generalize w3.heap.size = T at *
  clear cb
  have u0 := XT.out.cell 0
  have u1 := XT.out.cell 1
  have u2 := XT.out.cell 2
  have u3 := XT.out.cell 3
  have v0 := RB.out.cell 0
  have v1 := RB.out.cell 1
  have v2 := RB.out.cell 2
  have v3 := RB.out.cell 3
  have z0 := RB.out.frozen 0
  have z1 := RB.out.frozen 1
  have z2 := RB.out.frozen 2
  have z3 := RB.out.frozen 3
  simp at u0 u1 u2 u3 v0 v1 v2 v3
  obtain ⟨f0, f1, f2, f3⟩ := cells_four RB.out (.int .i64 1) (.int .i64 2) (.slice none 0 0) (.slice none 0 0)
  go_wp2
  refine bodyPost_ret (by simp [results, Tryz.results103, go_sem, f0, f1, f2, f3]; try rfl) rfl ?_
  refine ⟨[.int .i64 1, .int .i64 2, .slice none 0 0, .slice none 0 0], rfl, plain_made (R := W.heap.size + 1) (a := .int .i64 1) (b := .int .i64 2) (c := .slice none 0 0) (d := .slice none 0 0) (ns := []) (by simp) (World.ownsRow_nil _ _ _ _) (fun b e => by simp [Value.ownBlock] at e) (by simp [Value.ownBlock]), below_setCell' (below_setCell' (below_setCell' (below_setCell' BE.out (Nat.le_succ _) _) (Nat.le_succ _) _) (Nat.le_succ _) _) (Nat.le_succ _) _⟩

set_option maxRecDepth 100000 in
theorem plainPoint_3e {x y z m : Nat} (W : World) (hb : x < 18446744073709551616 ∧ y < 18446744073709551616 ∧ z < 18446744073709551616 ∧ m < 18446744073709551616) :
    Calls Tryz.prog 103 #[.agg #[.float .f64 x, .float .f64 y, .float .f64 z, .float .f64 m, .int .u8 3, .bool false]] W fun e w' => ∃ cs, e = .returned (.agg cs.toArray) ∧ GmOn w' (fun b => W.heap.size ≤ b) cs (.mk 1 3 [] []) ∧ Below W.heap.size W w' := by
  obtain ⟨i0, hi0, hz0, hz1, hz2⟩ := info_parts info_f64
  have hct : ∀ w : World, Calls Tryz.prog 94 #[.agg #[.float .f64 x, .float .f64 y, .float .f64 z, .float .f64 m, .int .u8 3, .bool false]] w fun e w' => e = .returned (.int .u8 3) ∧ Below w.heap.size w w' := fun w : World => PtCT_G (ok := fun _ => True) w (show PtG w (fun _ => True) [.float .f64 x, .float .f64 y, .float .f64 z, .float .f64 m, .int .u8 3, .bool false] (.mk 1 3 [] []) from ⟨x, y, z, m, 3, false, rfl, by omega, by omega, hb, by simp⟩)
  have b2 : Below W.heap.size W ((W.alloc (.cells #[.float .f64 x, .float .f64 y, .float .f64 z, .float .f64 m, .int .u8 3, .bool false] 109)).alloc (.cells #[.int .i64 0, .int .i64 0, .slice none 0 0, .slice none 0 0] 25)) := ((Below.refl _ _).alloc (Nat.le_refl _) _).alloc (by simp) _
  have p2 := (Blk.new W 109 #[.float .f64 x, .float .f64 y, .float .f64 z, .float .f64 m, .int .u8 3, .bool false]).alloc (.cells #[.int .i64 0, .int .i64 0, .slice none 0 0, .slice none 0 0] 25)
  have r2 := Blk.new (W.alloc (.cells #[.float .f64 x, .float .f64 y, .float .f64 z, .float .f64 m, .int .u8 3, .bool false] 109)) 25 #[.int .i64 0, .int .i64 0, .slice none 0 0, .slice none 0 0]
  rw [World.size_alloc] at r2
  have B2 := Hd b2
  have P2 := Hd p2
  have R2 := Hd r2
  have HCT := Hd hct
  have HBN := Hd hb
  clear b2 p2 r2 hct hb
  go_enter Tryz.func103, Tryz.ntmps103
  go_wp2_with fail
  refine (HCT.out _).mono ?_
  rintro e w3 ⟨rfl, b3⟩
  have s3 : W.heap.size + 2 ≤ w3.heap.size := by have := b3.size; simpa using this
  have B3 := Hd ((B2.out.trans (b3.mono B2.out.size)).alloc (by omega) (.cells #[.int .i64 1, .int .i64 3, .slice none 0 0, .slice none 0 0] 25))
  have p3 := (P2.out.below b3 P2.out.lt).alloc (.cells #[.int .i64 1, .int .i64 3, .slice none 0 0, .slice none 0 0] 25)
  have R3 := Hd ((R2.out.below b3 R2.out.lt).alloc (.cells #[.int .i64 1, .int .i64 3, .slice none 0 0, .slice none 0 0] 25))
  have T3 := Hd (Blk.new w3 25 #[.int .i64 1, .int .i64 3, .slice none 0 0, .slice none 0 0])
  have hsa : (w3.alloc (.cells #[.int .i64 1, .int .i64 3, .slice none 0 0, .slice none 0 0] 25)).heap.size = w3.heap.size + 1 := World.size_alloc _ _
  have j0 := p3.cell 0
  have j1 := p3.cell 1
  have j2 := p3.cell 2
  have j3 := p3.cell 3
  have j4 := p3.cell 4
  have j5 := p3.cell 5
  simp at j0 j1 j2 j3 j4 j5
  clear b3 p3 HCT P2 R2 B2
  go_wp2_with fail
  refine (PtCoords x y z m 3 false _).mono ?_
  rintro e w4 ⟨rfl, b4⟩
  have s4 : w3.heap.size + 1 ≤ w4.heap.size := by have := b4.size; rw [hsa] at this; exact this
  have b5 : Below W.heap.size W (w4.alloc (.cells #[.float .f64 x, .float .f64 y, .float .f64 z, .float .f64 m, .int .u8 3] 107)) := (B3.out.trans (b4.mono B3.out.size)).alloc (by omega) _
  have RB := Hd ((R3.out.below b4 R3.out.lt).alloc (.cells #[.float .f64 x, .float .f64 y, .float .f64 z, .float .f64 m, .int .u8 3] 107))
  have XT := Hd ((T3.out.below b4 T3.out.lt).alloc (.cells #[.float .f64 x, .float .f64 y, .float .f64 z, .float .f64 m, .int .u8 3] 107))
  have cb := Blk.new w4 107 #[.float .f64 x, .float .f64 y, .float .f64 z, .float .f64 m, .int .u8 3]
  have CB := Hd cb
  have BE := Hd b5
  have hs5 : (w4.alloc (.cells #[.float .f64 x, .float .f64 y, .float .f64 z, .float .f64 m, .int .u8 3] 107)).heap.size = w4.heap.size + 1 := World.size_alloc _ _
  clear b4 b5 B3 R3 T3 j0 j1 j2 j3 j4 j5 hsa
  go_upto_region 4 with fail
  generalize w4.alloc (.cells #[.float .f64 x, .float .f64 y, .float .f64 z, .float .f64 m, .int .u8 3] 107) = w5 at *
  generalize w4.heap.size = C at *
  generalize w3.heap.size = T at *
  clear cb
  have u0 := XT.out.cell 0
  have u1 := XT.out.cell 1
  have u2 := XT.out.cell 2
  have u3 := XT.out.cell 3
  have v0 := RB.out.cell 0
  have v1 := RB.out.cell 1
  have v2 := RB.out.cell 2
  have v3 := RB.out.cell 3
  have z0 := RB.out.frozen 0
  have z1 := RB.out.frozen 1
  have z2 := RB.out.frozen 2
  have z3 := RB.out.frozen 3
  simp at u0 u1 u2 u3 v0 v1 v2 v3
  obtain ⟨f0, f1, f2, f3⟩ := cells_four RB.out (.int .i64 1) (.int .i64 3) (.slice none 0 0) (.slice none 0 0)
  go_wp2
  refine bodyPost_ret (by simp [results, Tryz.results103, go_sem, f0, f1, f2, f3]; try rfl) rfl ?_
  refine ⟨[.int .i64 1, .int .i64 3, .slice none 0 0, .slice none 0 0], rfl, plain_made (R := W.heap.size + 1) (a := .int .i64 1) (b := .int .i64 3) (c := .slice none 0 0) (d := .slice none 0 0) (ns := []) (by simp) (World.ownsRow_nil _ _ _ _) (fun b e => by simp [Value.ownBlock] at e) (by simp [Value.ownBlock]), below_setCell' (below_setCell' (below_setCell' (below_setCell' BE.out (Nat.le_succ _) _) (Nat.le_succ _) _) (Nat.le_succ _) _) (Nat.le_succ _) _⟩

theorem plainPoint_G {ok : Nat → Prop} {x y z m : Nat} {q : Int} {f : Bool} {t : Gm} (W : World) (h : PtG W ok [.float .f64 x, .float .f64 y, .float .f64 z, .float .f64 m, .int .u8 q, .bool f] t) :
    Calls Tryz.prog 103 #[.agg #[.float .f64 x, .float .f64 y, .float .f64 z, .float .f64 m, .int .u8 q, .bool f]] W fun e w' => ∃ cs, e = .returned (.agg cs.toArray) ∧ GmOn w' (fun b => W.heap.size ≤ b) cs t ∧ Below W.heap.size W w' := by
  obtain ⟨x', y', z', m', q', f', e, q0, q1, hb, rfl⟩ := h
  simp only [List.cons.injEq, Value.float.injEq, Value.int.injEq, Value.bool.injEq, true_and, and_true] at e
  obtain ⟨rfl, rfl, rfl, rfl, rfl, rfl⟩ := e
  have hq : q = 0 ∨ q = 1 ∨ q = 2 ∨ q = 3 := by omega
  cases f
  · rcases hq with rfl | rfl | rfl | rfl
    · exact plainPoint_0e W hb
    · exact plainPoint_1e W hb
    · exact plainPoint_2e W hb
    · exact plainPoint_3e W hb
  · rcases hq with rfl | rfl | rfl | rfl
    · exact plainPoint_0 W hb
    · exact plainPoint_1 W hb
    · exact plainPoint_2 W hb
    · exact plainPoint_3 W hb

end Go.Proofs.YtofdccmmagcamaaGreatDoor
