import Derived.Test.YtofdccmmagcamaaGreatDoorMhL
import Derived.Test.YtofdccmmagcamaaGreatDoorMhK
import Derived.Test.YtofdccmmagcamaaGreatDoorMhH
import Derived.Test.YtofdccmmagcamaaGreatDoorMhJ
/- Geometries of any kind: behind a pointer. -/
set_option maxHeartbeats 8000000
set_option linter.unusedSimpArgs false
set_option linter.unusedVariables false
namespace Go.Proofs.YtofdccmmagcamaaGreatDoor
open Go.RowKit Go.Proofs.YtofdccmmagcamaaGreatDoorW.PrintLast

attribute [local go_sem] run_store_float

/-- A geometry of a kind that is no collection: its number, its struct's type, the pointer's type, its cells. -/
def LeafR (w : World) (ok : Nat → Prop) (K : Int) (ST PT : TypeId) (cs : List Value) (t : Gm) : Prop :=
  (K = 1 ∧ ST = 109 ∧ PT = 128 ∧ PtG w ok cs t) ∨
  (K = 2 ∧ ST = 89 ∧ PT = 129 ∧ LsG w ok cs t) ∨
  (K = 3 ∧ ST = 60 ∧ PT = 130 ∧ PgG w ok cs t) ∨
  (K = 4 ∧ ST = 114 ∧ PT = 131 ∧ MpG w ok cs t) ∨
  (K = 5 ∧ ST = 117 ∧ PT = 132 ∧ MlG w ok cs t) ∨
  (K = 6 ∧ ST = 121 ∧ PT = 133 ∧ MyG w ok cs t)
theorem LeafR.keeps {w w' : World} {ok ok' : Nat → Prop} {K : Int} {ST PT : TypeId} {cs : List Value} {t : Gm} (h : LeafR w ok K ST PT cs t) (hk : ∀ b, ok b → b < w.heap.size → w'.heap[b]? = w.heap[b]?) (ho : ∀ b, ok b → b < w.heap.size → ok' b) : LeafR w' ok' K ST PT cs t := by
  rcases h with ⟨rfl, rfl, rfl, h⟩ | ⟨rfl, rfl, rfl, h⟩ | ⟨rfl, rfl, rfl, h⟩ | ⟨rfl, rfl, rfl, h⟩ | ⟨rfl, rfl, rfl, h⟩ | ⟨rfl, rfl, rfl, h⟩
  · exact .inl ⟨rfl, rfl, rfl, PtG.keeps _ _ _ _ _ _ h hk ho⟩
  · exact .inr (.inl ⟨rfl, rfl, rfl, LsG.keeps _ _ _ _ _ _ h hk ho⟩)
  · exact .inr (.inr (.inl ⟨rfl, rfl, rfl, PgG.keeps _ _ _ _ _ _ h hk ho⟩))
  · exact .inr (.inr (.inr (.inl ⟨rfl, rfl, rfl, MpG.keeps _ _ _ _ _ _ h hk ho⟩)))
  · exact .inr (.inr (.inr (.inr (.inl ⟨rfl, rfl, rfl, MlG.keeps _ _ _ _ _ _ h hk ho⟩))))
  · exact .inr (.inr (.inr (.inr (.inr (⟨rfl, rfl, rfl, MyG.keeps _ _ _ _ _ _ h hk ho⟩)))))
/-- The cells cs read as the geometry t, behind a pointer. -/
inductive GeoG (w : World) : (Nat → Prop) → List Value → Gm → Prop
  | leaf {ok : Nat → Prop} {K : Int} {ST PT : TypeId} {a : Nat} {cs : List Value} {t : Gm} (hl : LeafR w ok K ST PT cs t) (ha : ok a) (hb : Blk w a ST cs.toArray) : GeoG w ok [.int .i64 K, .iface PT (.pointer (some ⟨a, 0, none⟩))] t
  | gc {ok : Nat → Prop} {a : Nat} {A : Option Addr} {n c : Nat} {q : Int} {ks : List Gm} {css : List (List Value)} (ha : ok a) (hb : Blk w a 125 #[.slice A n c, .int .u8 q]) (q0 : 0 ≤ q) (q1 : q ≤ 3) (hl : ks.length = n) (hn : n ≤ 100000)
      (ho : w.ownsRow 0 68 2 (.slice A n c) ks.length css.flatten) (h2 : ∀ b, (Value.slice A n c).ownBlock = some b → ok b) (h3 : css.length = ks.length) (h4 : ∀ x ∈ css, x.length = 2)
      (h5 : ∀ (i : Nat) (x : List Value) (t : Gm), css[i]? = some x → ks[i]? = some t → GeoG w (fun b => ok b ∧ (Value.slice A n c).ownBlock ≠ some b) x t) : GeoG w ok [.int .i64 0, .iface 127 (.pointer (some ⟨a, 0, none⟩))] (.mk 0 q [] ks)
theorem GeoG.keeps : Keeps GeoG := by
  intro w w' ok ok' cs t h
  induction h generalizing ok' with
  | @leaf ok K ST PT a cs t hl ha hb =>
    intro hk ho
    exact .leaf (hl.keeps hk ho) (ho a ha hb.lt) ((hk a ha hb.lt).trans hb)
  | @gc ok a A n c q ks css ha hb q0 q1 hl hn how h2 h3 h4 h5 ih =>
    intro hk ho
    exact .gc (ho a ha hb.lt) ((hk a ha hb.lt).trans hb) q0 q1 hl hn (own_keep how (fun b hb hl => hk b (h2 b hb) hl)) (fun b hb => ho b (h2 b hb) (how.lt b hb).2) h3 h4
      (fun i x t hx ht => ih i x t hx ht _ (fun b hb hl => hk b hb.1 hl) (fun b hb hl => ⟨ho b hb.1 hl, hb.2⟩))
abbrev GcG := RowG GeoG 68 2 0
theorem GcG.keeps : Keeps GcG := RowG.keeps GeoG.keeps _ _ _
theorem GeoG.of_gc {w : World} {ok : Nat → Prop} {a : Nat} {A : Option Addr} {n c : Nat} {q : Int} {t : Gm} (h : GcG w ok [.slice A n c, .int .u8 q] t) (ha : ok a) (hb : Blk w a 125 #[.slice A n c, .int .u8 q]) : GeoG w ok [.int .i64 0, .iface 127 (.pointer (some ⟨a, 0, none⟩))] t := by
  obtain ⟨A', n', c', q', ks, rfl, e, h0, h1, hl, hn, css, o1, o2, o3, o4, o5⟩ := h
  simp only [List.cons.injEq, Value.slice.injEq, Value.int.injEq, and_true, true_and] at e
  obtain ⟨⟨rfl, rfl, rfl⟩, rfl⟩ := e
  exact .gc ha hb h0 h1 hl hn o1 o2 o3 o4 o5
theorem GeoG.shape {w : World} {ok : Nat → Prop} {x : List Value} {t : Gm} (h : GeoG w ok x t) : ∃ (q : Int) (T a : Nat), x = [.int .i64 q, .iface T (.pointer (some ⟨a, 0, none⟩))] ∧ True := by
  cases h with
  | leaf => exact ⟨_, _, _, rfl, trivial⟩
  | gc => exact ⟨_, _, _, rfl, trivial⟩
theorem asPt (v : Value) (w : World) : (Instr.typeAssert (.iface 128 v) 20 128 false).run Tryz.prog w = .ok v w := by kernel_rfl
theorem asLs (v : Value) (w : World) : (Instr.typeAssert (.iface 129 v) 20 129 false).run Tryz.prog w = .ok v w := by kernel_rfl
theorem asPg (v : Value) (w : World) : (Instr.typeAssert (.iface 130 v) 20 130 false).run Tryz.prog w = .ok v w := by kernel_rfl
theorem asMp (v : Value) (w : World) : (Instr.typeAssert (.iface 131 v) 20 131 false).run Tryz.prog w = .ok v w := by kernel_rfl
theorem asMl (v : Value) (w : World) : (Instr.typeAssert (.iface 132 v) 20 132 false).run Tryz.prog w = .ok v w := by kernel_rfl
theorem asMy (v : Value) (w : World) : (Instr.typeAssert (.iface 133 v) 20 133 false).run Tryz.prog w = .ok v w := by kernel_rfl
theorem asGc (v : Value) (w : World) : (Instr.typeAssert (.iface 127 v) 20 127 false).run Tryz.prog w = .ok v w := by kernel_rfl
attribute [local go_sem] asPt asLs asPg asMp asMl asMy asGc

set_option maxRecDepth 100000 in
theorem check_any (K : Int) (u : Value) (W : World) : Calls Tryz.prog 140 #[.agg #[.int .i64 K, u], .int .i64 K] W fun e w' => e = .returned (.tuple #[]) ∧ Below W.heap.size W w' := by
  have hk : (K == K) = true := beq_self_eq_true _
  go_enter Tryz.func140, Tryz.ntmps140
  go_wp2
  go_end0
  exact ⟨rfl, (Below.refl _ _).alloc (Nat.le_refl _) _⟩

set_option maxRecDepth 100000 in
theorem AsPt (x y z m : Nat) (q : Int) (f : Bool) (W : World) : Calls Tryz.prog 60 #[.agg #[.float .f64 x, .float .f64 y, .float .f64 z, .float .f64 m, .int .u8 q, .bool f]] W fun e w' => ∃ a : Nat, e = .returned (.agg #[.int .i64 1, .iface 128 (.pointer (some ⟨a, 0, none⟩))]) ∧ W.heap.size ≤ a ∧ Blk w' a 109 #[.float .f64 x, .float .f64 y, .float .f64 z, .float .f64 m, .int .u8 q, .bool f] ∧ Below W.heap.size W w' := by
  go_enter Tryz.func60, Tryz.ntmps60
  go_wp2
  go_returns
  refine ⟨W.heap.size, rfl, Nat.le_refl _, ?_, by go_grown⟩
  exact (Blk.new W 109 #[.float .f64 x, .float .f64 y, .float .f64 z, .float .f64 m, .int .u8 q, .bool f]).alloc _

set_option maxRecDepth 100000 in
theorem AsLs (q : Int) (A : Option Addr) (n c : Nat) (W : World) : Calls Tryz.prog 61 #[.agg #[.int .u8 q, .slice A n c]] W fun e w' => ∃ a : Nat, e = .returned (.agg #[.int .i64 2, .iface 129 (.pointer (some ⟨a, 0, none⟩))]) ∧ W.heap.size ≤ a ∧ Blk w' a 89 #[.int .u8 q, .slice A n c] ∧ Below W.heap.size W w' := by
  go_enter Tryz.func61, Tryz.ntmps61
  go_wp2
  go_returns
  refine ⟨W.heap.size, rfl, Nat.le_refl _, ?_, by go_grown⟩
  exact (Blk.new W 89 #[.int .u8 q, .slice A n c]).alloc _

set_option maxRecDepth 100000 in
theorem AsPg (A : Option Addr) (n c : Nat) (q : Int) (W : World) : Calls Tryz.prog 62 #[.agg #[.slice A n c, .int .u8 q]] W fun e w' => ∃ a : Nat, e = .returned (.agg #[.int .i64 3, .iface 130 (.pointer (some ⟨a, 0, none⟩))]) ∧ W.heap.size ≤ a ∧ Blk w' a 60 #[.slice A n c, .int .u8 q] ∧ Below W.heap.size W w' := by
  go_enter Tryz.func62, Tryz.ntmps62
  go_wp2
  go_returns
  refine ⟨W.heap.size, rfl, Nat.le_refl _, ?_, by go_grown⟩
  exact (Blk.new W 60 #[.slice A n c, .int .u8 q]).alloc _

set_option maxRecDepth 100000 in
theorem AsMp (A : Option Addr) (n c : Nat) (q : Int) (W : World) : Calls Tryz.prog 64 #[.agg #[.slice A n c, .int .u8 q]] W fun e w' => ∃ a : Nat, e = .returned (.agg #[.int .i64 4, .iface 131 (.pointer (some ⟨a, 0, none⟩))]) ∧ W.heap.size ≤ a ∧ Blk w' a 114 #[.slice A n c, .int .u8 q] ∧ Below W.heap.size W w' := by
  go_enter Tryz.func64, Tryz.ntmps64
  go_wp2
  go_returns
  refine ⟨W.heap.size, rfl, Nat.le_refl _, ?_, by go_grown⟩
  exact (Blk.new W 114 #[.slice A n c, .int .u8 q]).alloc _

set_option maxRecDepth 100000 in
theorem AsMl (A : Option Addr) (n c : Nat) (q : Int) (W : World) : Calls Tryz.prog 66 #[.agg #[.slice A n c, .int .u8 q]] W fun e w' => ∃ a : Nat, e = .returned (.agg #[.int .i64 5, .iface 132 (.pointer (some ⟨a, 0, none⟩))]) ∧ W.heap.size ≤ a ∧ Blk w' a 117 #[.slice A n c, .int .u8 q] ∧ Below W.heap.size W w' := by
  go_enter Tryz.func66, Tryz.ntmps66
  go_wp2
  go_returns
  refine ⟨W.heap.size, rfl, Nat.le_refl _, ?_, by go_grown⟩
  exact (Blk.new W 117 #[.slice A n c, .int .u8 q]).alloc _

set_option maxRecDepth 100000 in
theorem AsMy (A : Option Addr) (n c : Nat) (q : Int) (W : World) : Calls Tryz.prog 68 #[.agg #[.slice A n c, .int .u8 q]] W fun e w' => ∃ a : Nat, e = .returned (.agg #[.int .i64 6, .iface 133 (.pointer (some ⟨a, 0, none⟩))]) ∧ W.heap.size ≤ a ∧ Blk w' a 121 #[.slice A n c, .int .u8 q] ∧ Below W.heap.size W w' := by
  go_enter Tryz.func68, Tryz.ntmps68
  go_wp2
  go_returns
  refine ⟨W.heap.size, rfl, Nat.le_refl _, ?_, by go_grown⟩
  exact (Blk.new W 121 #[.slice A n c, .int .u8 q]).alloc _

set_option maxRecDepth 100000 in
theorem MustPt (x y z m : Nat) (q : Int) (f : Bool) (a : Nat) (W : World) (h : Blk W a 109 #[.float .f64 x, .float .f64 y, .float .f64 z, .float .f64 m, .int .u8 q, .bool f]) : Calls Tryz.prog 81 #[.agg #[.int .i64 1, .iface 128 (.pointer (some ⟨a, 0, none⟩))]] W fun e w' => e = .returned (.agg #[.float .f64 x, .float .f64 y, .float .f64 z, .float .f64 m, .int .u8 q, .bool f]) ∧ Below W.heap.size W w' := by
  have hb : Below W.heap.size W ((W.alloc (.cells #[.int .i64 1, .iface 128 (.pointer (some ⟨a, 0, none⟩))] 68)).alloc (.cells #[.float .f64 0, .float .f64 0, .float .f64 0, .float .f64 0, .int .u8 0, .bool false] 109)) := ((Below.refl _ _).alloc (Nat.le_refl _) _).alloc (by simp) _
  have hx := Blk.new (W.alloc (.cells #[.int .i64 1, .iface 128 (.pointer (some ⟨a, 0, none⟩))] 68)) 109 #[.float .f64 0, .float .f64 0, .float .f64 0, .float .f64 0, .int .u8 0, .bool false]
  have hg := (Blk.new W 68 #[.int .i64 1, .iface 128 (.pointer (some ⟨a, 0, none⟩))]).alloc (.cells #[.float .f64 0, .float .f64 0, .float .f64 0, .float .f64 0, .int .u8 0, .bool false] 109)
  rw [World.size_alloc] at hx
  have HX := Hd hx
  have HGB := Hd hg
  have HA := Hd (h.below hb h.lt)
  have HB := Hd hb
  clear hx hg h hb
  go_enter Tryz.func81, Tryz.ntmps81
  go_wp2_with fail
  refine (check_any 1 _ _).mono ?_
  rintro e w1 ⟨rfl, b1⟩
  have x1 := HX.out.below b1 HX.out.lt
  have g1 := HGB.out.below b1 HGB.out.lt
  have a1 := HA.out.below b1 HA.out.lt
  replace HA := Hd a1
  have c0 := a1.cell 0
  have c1 := a1.cell 1
  have c2 := a1.cell 2
  have c3 := a1.cell 3
  have c4 := a1.cell 4
  have c5 := a1.cell 5
  simp at c0 c1 c2 c3 c4 c5
  have g0 := g1.cell 0
  have g1' := g1.cell 1
  simp at g0 g1'
  have z0 := x1.frozen 0
  have y0 := x1.cell 0
  have z1 := x1.frozen 1
  have y1 := x1.cell 1
  have z2 := x1.frozen 2
  have y2 := x1.cell 2
  have z3 := x1.frozen 3
  have y3 := x1.cell 3
  have z4 := x1.frozen 4
  have y4 := x1.cell 4
  have z5 := x1.frozen 5
  have y5 := x1.cell 5
  simp at y0 y1 y2 y3 y4 y5
  have e0 : (w1.setCell ⟨W.heap.size + 1, 0, none⟩ (.float .f64 x)).cell? ⟨W.heap.size + 1, 0, none⟩ = some (.float .f64 x) := by simpa using (x1.set_ 0 (.float .f64 x)).cell 0
  have e1 : ((w1.setCell ⟨W.heap.size + 1, 0, none⟩ (.float .f64 x)).setCell ⟨W.heap.size + 1, 1, none⟩ (.float .f64 y)).cell? ⟨W.heap.size + 1, 1, none⟩ = some (.float .f64 y) := by simpa using ((x1.set_ 0 (.float .f64 x)).set_ 1 (.float .f64 y)).cell 1
  have e2 : (((w1.setCell ⟨W.heap.size + 1, 0, none⟩ (.float .f64 x)).setCell ⟨W.heap.size + 1, 1, none⟩ (.float .f64 y)).setCell ⟨W.heap.size + 1, 2, none⟩ (.float .f64 z)).cell? ⟨W.heap.size + 1, 2, none⟩ = some (.float .f64 z) := by simpa using (((x1.set_ 0 (.float .f64 x)).set_ 1 (.float .f64 y)).set_ 2 (.float .f64 z)).cell 2
  have e3 : ((((w1.setCell ⟨W.heap.size + 1, 0, none⟩ (.float .f64 x)).setCell ⟨W.heap.size + 1, 1, none⟩ (.float .f64 y)).setCell ⟨W.heap.size + 1, 2, none⟩ (.float .f64 z)).setCell ⟨W.heap.size + 1, 3, none⟩ (.float .f64 m)).cell? ⟨W.heap.size + 1, 3, none⟩ = some (.float .f64 m) := by simpa using ((((x1.set_ 0 (.float .f64 x)).set_ 1 (.float .f64 y)).set_ 2 (.float .f64 z)).set_ 3 (.float .f64 m)).cell 3
  have e4 : (((((w1.setCell ⟨W.heap.size + 1, 0, none⟩ (.float .f64 x)).setCell ⟨W.heap.size + 1, 1, none⟩ (.float .f64 y)).setCell ⟨W.heap.size + 1, 2, none⟩ (.float .f64 z)).setCell ⟨W.heap.size + 1, 3, none⟩ (.float .f64 m)).setCell ⟨W.heap.size + 1, 4, none⟩ (.int .u8 q)).cell? ⟨W.heap.size + 1, 4, none⟩ = some (.int .u8 q) := by simpa using (((((x1.set_ 0 (.float .f64 x)).set_ 1 (.float .f64 y)).set_ 2 (.float .f64 z)).set_ 3 (.float .f64 m)).set_ 4 (.int .u8 q)).cell 4
  have e5 : ((((((w1.setCell ⟨W.heap.size + 1, 0, none⟩ (.float .f64 x)).setCell ⟨W.heap.size + 1, 1, none⟩ (.float .f64 y)).setCell ⟨W.heap.size + 1, 2, none⟩ (.float .f64 z)).setCell ⟨W.heap.size + 1, 3, none⟩ (.float .f64 m)).setCell ⟨W.heap.size + 1, 4, none⟩ (.int .u8 q)).setCell ⟨W.heap.size + 1, 5, none⟩ (.bool f)).cell? ⟨W.heap.size + 1, 5, none⟩ = some (.bool f) := by simpa using ((((((x1.set_ 0 (.float .f64 x)).set_ 1 (.float .f64 y)).set_ 2 (.float .f64 z)).set_ 3 (.float .f64 m)).set_ 4 (.int .u8 q)).set_ 5 (.bool f)).cell 5
  have HB1 := Hd (HB.out.trans (b1.mono HB.out.size))
  clear b1 x1 g1 a1
  go_wp2
  refine bodyPost_ret (by simp [results, Tryz.results81, go_sem, e0, e1, e2, e3, e4, e5]; try rfl) rfl ?_
  exact ⟨rfl, below_setCell' (below_setCell' (below_setCell' (below_setCell' (below_setCell' (below_setCell' HB1.out (Nat.le_succ _) _) (Nat.le_succ _) _) (Nat.le_succ _) _) (Nat.le_succ _) _) (Nat.le_succ _) _) (Nat.le_succ _) _⟩

set_option maxRecDepth 100000 in
theorem MustLs (q : Int) (A : Option Addr) (n c : Nat) (a : Nat) (W : World) (h : Blk W a 89 #[.int .u8 q, .slice A n c]) : Calls Tryz.prog 83 #[.agg #[.int .i64 2, .iface 129 (.pointer (some ⟨a, 0, none⟩))]] W fun e w' => e = .returned (.agg #[.int .u8 q, .slice A n c]) ∧ Below W.heap.size W w' := by
  have hb : Below W.heap.size W ((W.alloc (.cells #[.int .i64 2, .iface 129 (.pointer (some ⟨a, 0, none⟩))] 68)).alloc (.cells #[.int .u8 0, .slice none 0 0] 89)) := ((Below.refl _ _).alloc (Nat.le_refl _) _).alloc (by simp) _
  have hx := Blk.new (W.alloc (.cells #[.int .i64 2, .iface 129 (.pointer (some ⟨a, 0, none⟩))] 68)) 89 #[.int .u8 0, .slice none 0 0]
  have hg := (Blk.new W 68 #[.int .i64 2, .iface 129 (.pointer (some ⟨a, 0, none⟩))]).alloc (.cells #[.int .u8 0, .slice none 0 0] 89)
  rw [World.size_alloc] at hx
  have HX := Hd hx
  have HGB := Hd hg
  have HA := Hd (h.below hb h.lt)
  have HB := Hd hb
  clear hx hg h hb
  go_enter Tryz.func83, Tryz.ntmps83
  go_wp2_with fail
  refine (check_any 2 _ _).mono ?_
  rintro e w1 ⟨rfl, b1⟩
  have x1 := HX.out.below b1 HX.out.lt
  have g1 := HGB.out.below b1 HGB.out.lt
  have a1 := HA.out.below b1 HA.out.lt
  replace HA := Hd a1
  have c0 := a1.cell 0
  have c1 := a1.cell 1
  simp at c0 c1
  have g0 := g1.cell 0
  have g1' := g1.cell 1
  simp at g0 g1'
  have z0 := x1.frozen 0
  have y0 := x1.cell 0
  have z1 := x1.frozen 1
  have y1 := x1.cell 1
  simp at y0 y1
  have e0 : (w1.setCell ⟨W.heap.size + 1, 0, none⟩ (.int .u8 q)).cell? ⟨W.heap.size + 1, 0, none⟩ = some (.int .u8 q) := by simpa using (x1.set_ 0 (.int .u8 q)).cell 0
  have e1 : ((w1.setCell ⟨W.heap.size + 1, 0, none⟩ (.int .u8 q)).setCell ⟨W.heap.size + 1, 1, none⟩ (.slice A n c)).cell? ⟨W.heap.size + 1, 1, none⟩ = some (.slice A n c) := by simpa using ((x1.set_ 0 (.int .u8 q)).set_ 1 (.slice A n c)).cell 1
  have HB1 := Hd (HB.out.trans (b1.mono HB.out.size))
  clear b1 x1 g1 a1
  go_wp2
  refine bodyPost_ret (by simp [results, Tryz.results83, go_sem, e0, e1]; try rfl) rfl ?_
  exact ⟨rfl, below_setCell' (below_setCell' HB1.out (Nat.le_succ _) _) (Nat.le_succ _) _⟩

set_option maxRecDepth 100000 in
theorem MustPg (A : Option Addr) (n c : Nat) (q : Int) (a : Nat) (W : World) (h : Blk W a 60 #[.slice A n c, .int .u8 q]) : Calls Tryz.prog 85 #[.agg #[.int .i64 3, .iface 130 (.pointer (some ⟨a, 0, none⟩))]] W fun e w' => e = .returned (.agg #[.slice A n c, .int .u8 q]) ∧ Below W.heap.size W w' := by
  have hb : Below W.heap.size W ((W.alloc (.cells #[.int .i64 3, .iface 130 (.pointer (some ⟨a, 0, none⟩))] 68)).alloc (.cells #[.slice none 0 0, .int .u8 0] 60)) := ((Below.refl _ _).alloc (Nat.le_refl _) _).alloc (by simp) _
  have hx := Blk.new (W.alloc (.cells #[.int .i64 3, .iface 130 (.pointer (some ⟨a, 0, none⟩))] 68)) 60 #[.slice none 0 0, .int .u8 0]
  have hg := (Blk.new W 68 #[.int .i64 3, .iface 130 (.pointer (some ⟨a, 0, none⟩))]).alloc (.cells #[.slice none 0 0, .int .u8 0] 60)
  rw [World.size_alloc] at hx
  have HX := Hd hx
  have HGB := Hd hg
  have HA := Hd (h.below hb h.lt)
  have HB := Hd hb
  clear hx hg h hb
  go_enter Tryz.func85, Tryz.ntmps85
  go_wp2_with fail
  refine (check_any 3 _ _).mono ?_
  rintro e w1 ⟨rfl, b1⟩
  have x1 := HX.out.below b1 HX.out.lt
  have g1 := HGB.out.below b1 HGB.out.lt
  have a1 := HA.out.below b1 HA.out.lt
  replace HA := Hd a1
  have c0 := a1.cell 0
  have c1 := a1.cell 1
  simp at c0 c1
  have g0 := g1.cell 0
  have g1' := g1.cell 1
  simp at g0 g1'
  have z0 := x1.frozen 0
  have y0 := x1.cell 0
  have z1 := x1.frozen 1
  have y1 := x1.cell 1
  simp at y0 y1
  have e0 : (w1.setCell ⟨W.heap.size + 1, 0, none⟩ (.slice A n c)).cell? ⟨W.heap.size + 1, 0, none⟩ = some (.slice A n c) := by simpa using (x1.set_ 0 (.slice A n c)).cell 0
  have e1 : ((w1.setCell ⟨W.heap.size + 1, 0, none⟩ (.slice A n c)).setCell ⟨W.heap.size + 1, 1, none⟩ (.int .u8 q)).cell? ⟨W.heap.size + 1, 1, none⟩ = some (.int .u8 q) := by simpa using ((x1.set_ 0 (.slice A n c)).set_ 1 (.int .u8 q)).cell 1
  have HB1 := Hd (HB.out.trans (b1.mono HB.out.size))
  clear b1 x1 g1 a1
  go_wp2
  refine bodyPost_ret (by simp [results, Tryz.results85, go_sem, e0, e1]; try rfl) rfl ?_
  exact ⟨rfl, below_setCell' (below_setCell' HB1.out (Nat.le_succ _) _) (Nat.le_succ _) _⟩

set_option maxRecDepth 100000 in
theorem MustMp (A : Option Addr) (n c : Nat) (q : Int) (a : Nat) (W : World) (h : Blk W a 114 #[.slice A n c, .int .u8 q]) : Calls Tryz.prog 87 #[.agg #[.int .i64 4, .iface 131 (.pointer (some ⟨a, 0, none⟩))]] W fun e w' => e = .returned (.agg #[.slice A n c, .int .u8 q]) ∧ Below W.heap.size W w' := by
  have hb : Below W.heap.size W ((W.alloc (.cells #[.int .i64 4, .iface 131 (.pointer (some ⟨a, 0, none⟩))] 68)).alloc (.cells #[.slice none 0 0, .int .u8 0] 114)) := ((Below.refl _ _).alloc (Nat.le_refl _) _).alloc (by simp) _
  have hx := Blk.new (W.alloc (.cells #[.int .i64 4, .iface 131 (.pointer (some ⟨a, 0, none⟩))] 68)) 114 #[.slice none 0 0, .int .u8 0]
  have hg := (Blk.new W 68 #[.int .i64 4, .iface 131 (.pointer (some ⟨a, 0, none⟩))]).alloc (.cells #[.slice none 0 0, .int .u8 0] 114)
  rw [World.size_alloc] at hx
  have HX := Hd hx
  have HGB := Hd hg
  have HA := Hd (h.below hb h.lt)
  have HB := Hd hb
  clear hx hg h hb
  go_enter Tryz.func87, Tryz.ntmps87
  go_wp2_with fail
  refine (check_any 4 _ _).mono ?_
  rintro e w1 ⟨rfl, b1⟩
  have x1 := HX.out.below b1 HX.out.lt
  have g1 := HGB.out.below b1 HGB.out.lt
  have a1 := HA.out.below b1 HA.out.lt
  replace HA := Hd a1
  have c0 := a1.cell 0
  have c1 := a1.cell 1
  simp at c0 c1
  have g0 := g1.cell 0
  have g1' := g1.cell 1
  simp at g0 g1'
  have z0 := x1.frozen 0
  have y0 := x1.cell 0
  have z1 := x1.frozen 1
  have y1 := x1.cell 1
  simp at y0 y1
  have e0 : (w1.setCell ⟨W.heap.size + 1, 0, none⟩ (.slice A n c)).cell? ⟨W.heap.size + 1, 0, none⟩ = some (.slice A n c) := by simpa using (x1.set_ 0 (.slice A n c)).cell 0
  have e1 : ((w1.setCell ⟨W.heap.size + 1, 0, none⟩ (.slice A n c)).setCell ⟨W.heap.size + 1, 1, none⟩ (.int .u8 q)).cell? ⟨W.heap.size + 1, 1, none⟩ = some (.int .u8 q) := by simpa using ((x1.set_ 0 (.slice A n c)).set_ 1 (.int .u8 q)).cell 1
  have HB1 := Hd (HB.out.trans (b1.mono HB.out.size))
  clear b1 x1 g1 a1
  go_wp2
  refine bodyPost_ret (by simp [results, Tryz.results87, go_sem, e0, e1]; try rfl) rfl ?_
  exact ⟨rfl, below_setCell' (below_setCell' HB1.out (Nat.le_succ _) _) (Nat.le_succ _) _⟩

set_option maxRecDepth 100000 in
theorem MustMl (A : Option Addr) (n c : Nat) (q : Int) (a : Nat) (W : World) (h : Blk W a 117 #[.slice A n c, .int .u8 q]) : Calls Tryz.prog 89 #[.agg #[.int .i64 5, .iface 132 (.pointer (some ⟨a, 0, none⟩))]] W fun e w' => e = .returned (.agg #[.slice A n c, .int .u8 q]) ∧ Below W.heap.size W w' := by
  have hb : Below W.heap.size W ((W.alloc (.cells #[.int .i64 5, .iface 132 (.pointer (some ⟨a, 0, none⟩))] 68)).alloc (.cells #[.slice none 0 0, .int .u8 0] 117)) := ((Below.refl _ _).alloc (Nat.le_refl _) _).alloc (by simp) _
  have hx := Blk.new (W.alloc (.cells #[.int .i64 5, .iface 132 (.pointer (some ⟨a, 0, none⟩))] 68)) 117 #[.slice none 0 0, .int .u8 0]
  have hg := (Blk.new W 68 #[.int .i64 5, .iface 132 (.pointer (some ⟨a, 0, none⟩))]).alloc (.cells #[.slice none 0 0, .int .u8 0] 117)
  rw [World.size_alloc] at hx
  have HX := Hd hx
  have HGB := Hd hg
  have HA := Hd (h.below hb h.lt)
  have HB := Hd hb
  clear hx hg h hb
  go_enter Tryz.func89, Tryz.ntmps89
  go_wp2_with fail
  refine (check_any 5 _ _).mono ?_
  rintro e w1 ⟨rfl, b1⟩
  have x1 := HX.out.below b1 HX.out.lt
  have g1 := HGB.out.below b1 HGB.out.lt
  have a1 := HA.out.below b1 HA.out.lt
  replace HA := Hd a1
  have c0 := a1.cell 0
  have c1 := a1.cell 1
  simp at c0 c1
  have g0 := g1.cell 0
  have g1' := g1.cell 1
  simp at g0 g1'
  have z0 := x1.frozen 0
  have y0 := x1.cell 0
  have z1 := x1.frozen 1
  have y1 := x1.cell 1
  simp at y0 y1
  have e0 : (w1.setCell ⟨W.heap.size + 1, 0, none⟩ (.slice A n c)).cell? ⟨W.heap.size + 1, 0, none⟩ = some (.slice A n c) := by simpa using (x1.set_ 0 (.slice A n c)).cell 0
  have e1 : ((w1.setCell ⟨W.heap.size + 1, 0, none⟩ (.slice A n c)).setCell ⟨W.heap.size + 1, 1, none⟩ (.int .u8 q)).cell? ⟨W.heap.size + 1, 1, none⟩ = some (.int .u8 q) := by simpa using ((x1.set_ 0 (.slice A n c)).set_ 1 (.int .u8 q)).cell 1
  have HB1 := Hd (HB.out.trans (b1.mono HB.out.size))
  clear b1 x1 g1 a1
  go_wp2
  refine bodyPost_ret (by simp [results, Tryz.results89, go_sem, e0, e1]; try rfl) rfl ?_
  exact ⟨rfl, below_setCell' (below_setCell' HB1.out (Nat.le_succ _) _) (Nat.le_succ _) _⟩

set_option maxRecDepth 100000 in
theorem MustMy (A : Option Addr) (n c : Nat) (q : Int) (a : Nat) (W : World) (h : Blk W a 121 #[.slice A n c, .int .u8 q]) : Calls Tryz.prog 91 #[.agg #[.int .i64 6, .iface 133 (.pointer (some ⟨a, 0, none⟩))]] W fun e w' => e = .returned (.agg #[.slice A n c, .int .u8 q]) ∧ Below W.heap.size W w' := by
  have hb : Below W.heap.size W ((W.alloc (.cells #[.int .i64 6, .iface 133 (.pointer (some ⟨a, 0, none⟩))] 68)).alloc (.cells #[.slice none 0 0, .int .u8 0] 121)) := ((Below.refl _ _).alloc (Nat.le_refl _) _).alloc (by simp) _
  have hx := Blk.new (W.alloc (.cells #[.int .i64 6, .iface 133 (.pointer (some ⟨a, 0, none⟩))] 68)) 121 #[.slice none 0 0, .int .u8 0]
  have hg := (Blk.new W 68 #[.int .i64 6, .iface 133 (.pointer (some ⟨a, 0, none⟩))]).alloc (.cells #[.slice none 0 0, .int .u8 0] 121)
  rw [World.size_alloc] at hx
  have HX := Hd hx
  have HGB := Hd hg
  have HA := Hd (h.below hb h.lt)
  have HB := Hd hb
  clear hx hg h hb
  go_enter Tryz.func91, Tryz.ntmps91
  go_wp2_with fail
  refine (check_any 6 _ _).mono ?_
  rintro e w1 ⟨rfl, b1⟩
  have x1 := HX.out.below b1 HX.out.lt
  have g1 := HGB.out.below b1 HGB.out.lt
  have a1 := HA.out.below b1 HA.out.lt
  replace HA := Hd a1
  have c0 := a1.cell 0
  have c1 := a1.cell 1
  simp at c0 c1
  have g0 := g1.cell 0
  have g1' := g1.cell 1
  simp at g0 g1'
  have z0 := x1.frozen 0
  have y0 := x1.cell 0
  have z1 := x1.frozen 1
  have y1 := x1.cell 1
  simp at y0 y1
  have e0 : (w1.setCell ⟨W.heap.size + 1, 0, none⟩ (.slice A n c)).cell? ⟨W.heap.size + 1, 0, none⟩ = some (.slice A n c) := by simpa using (x1.set_ 0 (.slice A n c)).cell 0
  have e1 : ((w1.setCell ⟨W.heap.size + 1, 0, none⟩ (.slice A n c)).setCell ⟨W.heap.size + 1, 1, none⟩ (.int .u8 q)).cell? ⟨W.heap.size + 1, 1, none⟩ = some (.int .u8 q) := by simpa using ((x1.set_ 0 (.slice A n c)).set_ 1 (.int .u8 q)).cell 1
  have HB1 := Hd (HB.out.trans (b1.mono HB.out.size))
  clear b1 x1 g1 a1
  go_wp2
  refine bodyPost_ret (by simp [results, Tryz.results91, go_sem, e0, e1]; try rfl) rfl ?_
  exact ⟨rfl, below_setCell' (below_setCell' HB1.out (Nat.le_succ _) _) (Nat.le_succ _) _⟩

end Go.Proofs.YtofdccmmagcamaaGreatDoor

/- Geometries of any kind: their type, brought to a type. -/
set_option maxHeartbeats 8000000
set_option linter.unusedSimpArgs false
set_option linter.unusedVariables false
namespace Go.Proofs.YtofdccmmagcamaaGreatDoor
open Go.RowKit Go.Proofs.YtofdccmmagcamaaGreatDoorW.PrintLast

attribute [local go_sem] run_store_float

attribute [local go_sem] asPt asLs asPg asMp asMl asMy asGc

/-- What ForceCoordinatesType does at a geometry. -/
def GeoForceAt (t : Gm) : Prop := ∀ (Q : Int) (_ : 0 ≤ Q) (_ : Q ≤ 3) {ok : Nat → Prop} {q : Int} {T a : Nat} (W : World) (_ : GeoG W ok [.int .i64 q, .iface T (.pointer (some ⟨a, 0, none⟩))] t) (_ : OkT t),
    Calls Tryz.prog 172 #[.agg #[.int .i64 q, .iface T (.pointer (some ⟨a, 0, none⟩))], .int .u8 Q] W fun e w' => ∃ (q' : Int) (T' a' : Nat), e = .returned (.agg #[.int .i64 q', .iface T' (.pointer (some ⟨a', 0, none⟩))]) ∧ GeoG w' (fun b => ok b ∨ W.heap.size ≤ b) [.int .i64 q', .iface T' (.pointer (some ⟨a', 0, none⟩))] (forceT Q t) ∧ Below W.heap.size W w'
def Gm.kids : Gm → List Gm
  | .mk _ _ _ ks => ks
theorem info_geo : (Tryz.prog.info? 68).map (fun i => (i.zero, i.size, i.bytes)) = some (some (.agg #[.int .i64 0, .nilIface]), 2, 24) := by kernel_rfl

set_option maxRecDepth 100000 in
theorem GcCT (A : Option Addr) (n c : Nat) (q : Int) (w : World) : Calls Tryz.prog 93 #[.agg #[.slice A n c, .int .u8 q]] w fun e w' => e = .returned (.int .u8 q) ∧ Below w.heap.size w w' := by
  go_enter Tryz.func93, Tryz.ntmps93
  go_wp2
  go_ret
  exact ⟨rfl, (Below.refl _ _).alloc (Nat.le_refl _) _⟩
theorem GcCT_G {ok : Nat → Prop} {A : Option Addr} {n c : Nat} {q : Int} {t : Gm} (W : World) (h : GcG W ok [.slice A n c, .int .u8 q] t) :
    Calls Tryz.prog 93 #[.agg #[.slice A n c, .int .u8 q]] W fun e w' => e = .returned (.int .u8 t.d) ∧ Below W.heap.size W w' := by
  obtain ⟨A', n', c', q', e, hd, -⟩ := RowG.shape h
  simp only [List.cons.injEq, Value.int.injEq, and_true, true_and] at e
  rw [hd, ← e.2]
  exact GcCT A n c q W
set_option maxRecDepth 100000 in
theorem AsGc (A : Option Addr) (n c : Nat) (q : Int) (W : World) : Calls Tryz.prog 70 #[.agg #[.slice A n c, .int .u8 q]] W fun e w' => ∃ a : Nat, e = .returned (.agg #[.int .i64 0, .iface 127 (.pointer (some ⟨a, 0, none⟩))]) ∧ W.heap.size ≤ a ∧ Blk w' a 125 #[.slice A n c, .int .u8 q] ∧ Below W.heap.size W w' := by
  go_enter Tryz.func70, Tryz.ntmps70
  go_wp2
  go_returns
  refine ⟨W.heap.size, rfl, Nat.le_refl _, ?_, by go_grown⟩
  exact (Blk.new W 125 #[.slice A n c, .int .u8 q]).alloc _

set_option maxRecDepth 100000 in
theorem MustGc (A : Option Addr) (n c : Nat) (q : Int) (a : Nat) (W : World) (h : Blk W a 125 #[.slice A n c, .int .u8 q]) : Calls Tryz.prog 79 #[.agg #[.int .i64 0, .iface 127 (.pointer (some ⟨a, 0, none⟩))]] W fun e w' => e = .returned (.agg #[.slice A n c, .int .u8 q]) ∧ Below W.heap.size W w' := by
  have hb : Below W.heap.size W ((W.alloc (.cells #[.int .i64 0, .iface 127 (.pointer (some ⟨a, 0, none⟩))] 68)).alloc (.cells #[.slice none 0 0, .int .u8 0] 125)) := ((Below.refl _ _).alloc (Nat.le_refl _) _).alloc (by simp) _
  have hx := Blk.new (W.alloc (.cells #[.int .i64 0, .iface 127 (.pointer (some ⟨a, 0, none⟩))] 68)) 125 #[.slice none 0 0, .int .u8 0]
  have hg := (Blk.new W 68 #[.int .i64 0, .iface 127 (.pointer (some ⟨a, 0, none⟩))]).alloc (.cells #[.slice none 0 0, .int .u8 0] 125)
  rw [World.size_alloc] at hx
  have HX := Hd hx
  have HGB := Hd hg
  have HA := Hd (h.below hb h.lt)
  have HB := Hd hb
  clear hx hg h hb
  go_enter Tryz.func79, Tryz.ntmps79
  go_wp2_with fail
  refine (check_any 0 _ _).mono ?_
  rintro e w1 ⟨rfl, b1⟩
  have x1 := HX.out.below b1 HX.out.lt
  have g1 := HGB.out.below b1 HGB.out.lt
  have a1 := HA.out.below b1 HA.out.lt
  replace HA := Hd a1
  have c0 := a1.cell 0
  have c1 := a1.cell 1
  simp at c0 c1
  have g0 := g1.cell 0
  have g1' := g1.cell 1
  simp at g0 g1'
  have z0 := x1.frozen 0
  have y0 := x1.cell 0
  have z1 := x1.frozen 1
  have y1 := x1.cell 1
  simp at y0 y1
  have e0 : (w1.setCell ⟨W.heap.size + 1, 0, none⟩ (.slice A n c)).cell? ⟨W.heap.size + 1, 0, none⟩ = some (.slice A n c) := by simpa using (x1.set_ 0 (.slice A n c)).cell 0
  have e1 : ((w1.setCell ⟨W.heap.size + 1, 0, none⟩ (.slice A n c)).setCell ⟨W.heap.size + 1, 1, none⟩ (.int .u8 q)).cell? ⟨W.heap.size + 1, 1, none⟩ = some (.int .u8 q) := by simpa using ((x1.set_ 0 (.slice A n c)).set_ 1 (.int .u8 q)).cell 1
  have HB1 := Hd (HB.out.trans (b1.mono HB.out.size))
  clear b1 x1 g1 a1
  go_wp2
  refine bodyPost_ret (by simp [results, Tryz.results79, go_sem, e0, e1]; try rfl) rfl ?_
  exact ⟨rfl, below_setCell' (below_setCell' HB1.out (Nat.le_succ _) _) (Nat.le_succ _) _⟩

set_option maxRecDepth 100000 in
theorem GeoCT_Pt {ok : Nat → Prop} (x y z m : Nat) (q : Int) (f : Bool) {t : Gm} (a : Nat) (W : World) (hb : Blk W a 109 #[.float .f64 x, .float .f64 y, .float .f64 z, .float .f64 m, .int .u8 q, .bool f]) (h : PtG W ok [.float .f64 x, .float .f64 y, .float .f64 z, .float .f64 m, .int .u8 q, .bool f] t) :
    Calls Tryz.prog 40 #[.agg #[.int .i64 1, .iface 128 (.pointer (some ⟨a, 0, none⟩))]] W fun e w' => e = .returned (.int .u8 t.d) ∧ Below W.heap.size W w' := by
  have hb1 : Below W.heap.size W (W.alloc (.cells #[.int .i64 1, .iface 128 (.pointer (some ⟨a, 0, none⟩))] 68)) := (Below.refl _ _).alloc (Nat.le_refl _) _
  have HM := Hd (MustPt x y z m q f a (W.alloc (.cells #[.int .i64 1, .iface 128 (.pointer (some ⟨a, 0, none⟩))] 68)) (hb.below hb1 hb.lt))
  have HB1 := Hd hb1
  have HH := Hd (PtG.keeps _ _ _ (fun b => b < W.heap.size) _ _ h (fun b _ hl => hb1.block b hl) (fun b _ hl => hl))
  clear hb1 hb h
  go_enter Tryz.func40, Tryz.ntmps40
  go_wp2_with fail
  refine HM.out.mono ?_
  rintro e w1 ⟨rfl, b1⟩
  have HCT := Hd (PtCT_G w1 (PtG.keeps _ _ _ (fun _ => True) _ _ HH.out (fun b hb _ => b1.block b (Nat.lt_of_lt_of_le hb HB1.out.size)) (fun _ _ _ => trivial)))
  have HB2 := Hd (HB1.out.trans (b1.mono HB1.out.size))
  clear b1
  skip
  go_wp2_with fail
  refine HCT.out.mono ?_
  rintro e w2 ⟨rfl, b2⟩
  have HB3 := Hd (HB2.out.trans (b2.mono HB2.out.size))
  clear b2
  go_wp2
  go_ret
  exact ⟨rfl, HB3.out⟩

set_option maxRecDepth 100000 in
theorem GeoCT_Ls {ok : Nat → Prop} (q : Int) (A : Option Addr) (n c : Nat) {t : Gm} (a : Nat) (W : World) (hb : Blk W a 89 #[.int .u8 q, .slice A n c]) (h : LsG W ok [.int .u8 q, .slice A n c] t) :
    Calls Tryz.prog 40 #[.agg #[.int .i64 2, .iface 129 (.pointer (some ⟨a, 0, none⟩))]] W fun e w' => e = .returned (.int .u8 t.d) ∧ Below W.heap.size W w' := by
  have hb1 : Below W.heap.size W (W.alloc (.cells #[.int .i64 2, .iface 129 (.pointer (some ⟨a, 0, none⟩))] 68)) := (Below.refl _ _).alloc (Nat.le_refl _) _
  have HM := Hd (MustLs q A n c a (W.alloc (.cells #[.int .i64 2, .iface 129 (.pointer (some ⟨a, 0, none⟩))] 68)) (hb.below hb1 hb.lt))
  have HB1 := Hd hb1
  have HH := Hd (LsG.keeps _ _ _ (fun b => b < W.heap.size) _ _ h (fun b _ hl => hb1.block b hl) (fun b _ hl => hl))
  clear hb1 hb h
  go_enter Tryz.func40, Tryz.ntmps40
  go_wp2_with fail
  refine HM.out.mono ?_
  rintro e w1 ⟨rfl, b1⟩
  have HCT := Hd (LsCT_G w1 (LsG.keeps _ _ _ (fun _ => True) _ _ HH.out (fun b hb _ => b1.block b (Nat.lt_of_lt_of_le hb HB1.out.size)) (fun _ _ _ => trivial)))
  have HB2 := Hd (HB1.out.trans (b1.mono HB1.out.size))
  clear b1
  skip
  go_wp2_with fail
  refine HCT.out.mono ?_
  rintro e w2 ⟨rfl, b2⟩
  have HB3 := Hd (HB2.out.trans (b2.mono HB2.out.size))
  clear b2
  go_wp2
  go_ret
  exact ⟨rfl, HB3.out⟩

set_option maxRecDepth 100000 in
theorem GeoCT_Pg {ok : Nat → Prop} (A : Option Addr) (n c : Nat) (q : Int) {t : Gm} (a : Nat) (W : World) (hb : Blk W a 60 #[.slice A n c, .int .u8 q]) (h : PgG W ok [.slice A n c, .int .u8 q] t) :
    Calls Tryz.prog 40 #[.agg #[.int .i64 3, .iface 130 (.pointer (some ⟨a, 0, none⟩))]] W fun e w' => e = .returned (.int .u8 t.d) ∧ Below W.heap.size W w' := by
  have hb1 : Below W.heap.size W (W.alloc (.cells #[.int .i64 3, .iface 130 (.pointer (some ⟨a, 0, none⟩))] 68)) := (Below.refl _ _).alloc (Nat.le_refl _) _
  have HM := Hd (MustPg A n c q a (W.alloc (.cells #[.int .i64 3, .iface 130 (.pointer (some ⟨a, 0, none⟩))] 68)) (hb.below hb1 hb.lt))
  have HB1 := Hd hb1
  have HH := Hd (PgG.keeps _ _ _ (fun b => b < W.heap.size) _ _ h (fun b _ hl => hb1.block b hl) (fun b _ hl => hl))
  clear hb1 hb h
  go_enter Tryz.func40, Tryz.ntmps40
  go_wp2_with fail
  refine HM.out.mono ?_
  rintro e w1 ⟨rfl, b1⟩
  have HCT := Hd (PgCT_G w1 (PgG.keeps _ _ _ (fun _ => True) _ _ HH.out (fun b hb _ => b1.block b (Nat.lt_of_lt_of_le hb HB1.out.size)) (fun _ _ _ => trivial)))
  have HB2 := Hd (HB1.out.trans (b1.mono HB1.out.size))
  clear b1
  skip
  go_wp2_with fail
  refine HCT.out.mono ?_
  rintro e w2 ⟨rfl, b2⟩
  have HB3 := Hd (HB2.out.trans (b2.mono HB2.out.size))
  clear b2
  go_wp2
  go_ret
  exact ⟨rfl, HB3.out⟩

set_option maxRecDepth 100000 in
theorem GeoCT_Mp {ok : Nat → Prop} (A : Option Addr) (n c : Nat) (q : Int) {t : Gm} (a : Nat) (W : World) (hb : Blk W a 114 #[.slice A n c, .int .u8 q]) (h : MpG W ok [.slice A n c, .int .u8 q] t) :
    Calls Tryz.prog 40 #[.agg #[.int .i64 4, .iface 131 (.pointer (some ⟨a, 0, none⟩))]] W fun e w' => e = .returned (.int .u8 t.d) ∧ Below W.heap.size W w' := by
  have hb1 : Below W.heap.size W (W.alloc (.cells #[.int .i64 4, .iface 131 (.pointer (some ⟨a, 0, none⟩))] 68)) := (Below.refl _ _).alloc (Nat.le_refl _) _
  have HM := Hd (MustMp A n c q a (W.alloc (.cells #[.int .i64 4, .iface 131 (.pointer (some ⟨a, 0, none⟩))] 68)) (hb.below hb1 hb.lt))
  have HB1 := Hd hb1
  have HH := Hd (MpG.keeps _ _ _ (fun b => b < W.heap.size) _ _ h (fun b _ hl => hb1.block b hl) (fun b _ hl => hl))
  clear hb1 hb h
  go_enter Tryz.func40, Tryz.ntmps40
  go_wp2_with fail
  refine HM.out.mono ?_
  rintro e w1 ⟨rfl, b1⟩
  have HCT := Hd (MpCT_G w1 (MpG.keeps _ _ _ (fun _ => True) _ _ HH.out (fun b hb _ => b1.block b (Nat.lt_of_lt_of_le hb HB1.out.size)) (fun _ _ _ => trivial)))
  have HB2 := Hd (HB1.out.trans (b1.mono HB1.out.size))
  clear b1
  skip
  go_wp2_with fail
  refine HCT.out.mono ?_
  rintro e w2 ⟨rfl, b2⟩
  have HB3 := Hd (HB2.out.trans (b2.mono HB2.out.size))
  clear b2
  go_wp2
  go_ret
  exact ⟨rfl, HB3.out⟩

set_option maxRecDepth 100000 in
theorem GeoCT_Ml {ok : Nat → Prop} (A : Option Addr) (n c : Nat) (q : Int) {t : Gm} (a : Nat) (W : World) (hb : Blk W a 117 #[.slice A n c, .int .u8 q]) (h : MlG W ok [.slice A n c, .int .u8 q] t) :
    Calls Tryz.prog 40 #[.agg #[.int .i64 5, .iface 132 (.pointer (some ⟨a, 0, none⟩))]] W fun e w' => e = .returned (.int .u8 t.d) ∧ Below W.heap.size W w' := by
  have hb1 : Below W.heap.size W (W.alloc (.cells #[.int .i64 5, .iface 132 (.pointer (some ⟨a, 0, none⟩))] 68)) := (Below.refl _ _).alloc (Nat.le_refl _) _
  have HM := Hd (MustMl A n c q a (W.alloc (.cells #[.int .i64 5, .iface 132 (.pointer (some ⟨a, 0, none⟩))] 68)) (hb.below hb1 hb.lt))
  have HB1 := Hd hb1
  have HH := Hd (MlG.keeps _ _ _ (fun b => b < W.heap.size) _ _ h (fun b _ hl => hb1.block b hl) (fun b _ hl => hl))
  clear hb1 hb h
  go_enter Tryz.func40, Tryz.ntmps40
  go_wp2_with fail
  refine HM.out.mono ?_
  rintro e w1 ⟨rfl, b1⟩
  have HCT := Hd (MlCT_G w1 (MlG.keeps _ _ _ (fun _ => True) _ _ HH.out (fun b hb _ => b1.block b (Nat.lt_of_lt_of_le hb HB1.out.size)) (fun _ _ _ => trivial)))
  have HB2 := Hd (HB1.out.trans (b1.mono HB1.out.size))
  clear b1
  skip
  go_wp2_with fail
  refine HCT.out.mono ?_
  rintro e w2 ⟨rfl, b2⟩
  have HB3 := Hd (HB2.out.trans (b2.mono HB2.out.size))
  clear b2
  go_wp2
  go_ret
  exact ⟨rfl, HB3.out⟩

set_option maxRecDepth 100000 in
theorem GeoCT_My {ok : Nat → Prop} (A : Option Addr) (n c : Nat) (q : Int) {t : Gm} (a : Nat) (W : World) (hb : Blk W a 121 #[.slice A n c, .int .u8 q]) (h : MyG W ok [.slice A n c, .int .u8 q] t) :
    Calls Tryz.prog 40 #[.agg #[.int .i64 6, .iface 133 (.pointer (some ⟨a, 0, none⟩))]] W fun e w' => e = .returned (.int .u8 t.d) ∧ Below W.heap.size W w' := by
  have hb1 : Below W.heap.size W (W.alloc (.cells #[.int .i64 6, .iface 133 (.pointer (some ⟨a, 0, none⟩))] 68)) := (Below.refl _ _).alloc (Nat.le_refl _) _
  have HM := Hd (MustMy A n c q a (W.alloc (.cells #[.int .i64 6, .iface 133 (.pointer (some ⟨a, 0, none⟩))] 68)) (hb.below hb1 hb.lt))
  have HB1 := Hd hb1
  have HH := Hd (MyG.keeps _ _ _ (fun b => b < W.heap.size) _ _ h (fun b _ hl => hb1.block b hl) (fun b _ hl => hl))
  clear hb1 hb h
  go_enter Tryz.func40, Tryz.ntmps40
  go_wp2_with fail
  refine HM.out.mono ?_
  rintro e w1 ⟨rfl, b1⟩
  have HCT := Hd (MyCT_G w1 (MyG.keeps _ _ _ (fun _ => True) _ _ HH.out (fun b hb _ => b1.block b (Nat.lt_of_lt_of_le hb HB1.out.size)) (fun _ _ _ => trivial)))
  have HB2 := Hd (HB1.out.trans (b1.mono HB1.out.size))
  clear b1
  skip
  go_wp2_with fail
  refine HCT.out.mono ?_
  rintro e w2 ⟨rfl, b2⟩
  have HB3 := Hd (HB2.out.trans (b2.mono HB2.out.size))
  clear b2
  go_wp2
  go_ret
  exact ⟨rfl, HB3.out⟩

set_option maxRecDepth 100000 in
theorem GeoCT_Gc {ok : Nat → Prop} (A : Option Addr) (n c : Nat) (q : Int) {t : Gm} (a : Nat) (W : World) (hb : Blk W a 125 #[.slice A n c, .int .u8 q]) (h : GcG W ok [.slice A n c, .int .u8 q] t) :
    Calls Tryz.prog 40 #[.agg #[.int .i64 0, .iface 127 (.pointer (some ⟨a, 0, none⟩))]] W fun e w' => e = .returned (.int .u8 t.d) ∧ Below W.heap.size W w' := by
  have hb1 : Below W.heap.size W (W.alloc (.cells #[.int .i64 0, .iface 127 (.pointer (some ⟨a, 0, none⟩))] 68)) := (Below.refl _ _).alloc (Nat.le_refl _) _
  have HM := Hd (MustGc A n c q a (W.alloc (.cells #[.int .i64 0, .iface 127 (.pointer (some ⟨a, 0, none⟩))] 68)) (hb.below hb1 hb.lt))
  have HB1 := Hd hb1
  have HH := Hd (GcG.keeps _ _ _ (fun b => b < W.heap.size) _ _ h (fun b _ hl => hb1.block b hl) (fun b _ hl => hl))
  clear hb1 hb h
  go_enter Tryz.func40, Tryz.ntmps40
  go_wp2_with fail
  refine HM.out.mono ?_
  rintro e w1 ⟨rfl, b1⟩
  have HCT := Hd (GcCT_G w1 (GcG.keeps _ _ _ (fun _ => True) _ _ HH.out (fun b hb _ => b1.block b (Nat.lt_of_lt_of_le hb HB1.out.size)) (fun _ _ _ => trivial)))
  have HB2 := Hd (HB1.out.trans (b1.mono HB1.out.size))
  clear b1
  skip
  go_wp2_with fail
  refine HCT.out.mono ?_
  rintro e w2 ⟨rfl, b2⟩
  have HB3 := Hd (HB2.out.trans (b2.mono HB2.out.size))
  clear b2
  go_wp2
  go_ret
  exact ⟨rfl, HB3.out⟩

set_option maxRecDepth 100000 in
theorem GcForce_raw (Q : Int) (Q0 : 0 ≤ Q) (Q1 : Q ≤ 3) {ok : Nat → Prop} {A : Option Addr} {n c : Nat} (q : Int) {ts : List Gm} (W : World) (h : KRow GeoG 68 2 W ok (.slice A n c) ts) (hrl : ts.length = n) (hok : ∀ t ∈ ts, OkT t) (hn : n ≤ 100000) (hF : ∀ s ∈ ts, GeoForceAt s) :
    Calls Tryz.prog 132 #[.agg #[.slice A n c, .int .u8 q], .int .u8 Q] W fun e w' => ∃ (A' : Option Addr) (n' c' : Nat) (q' : Int), e = .returned (.agg #[.slice A' n' c', .int .u8 q']) ∧ GcG w' (fun b => ok b ∨ W.heap.size ≤ b) [.slice A' n' c', .int .u8 q'] (.mk 0 Q [] (ts.map (forceT Q))) ∧ Below W.heap.size W w' := by
  obtain ⟨i0, hi0, hz0, hz1, hz2⟩ := info_parts info_geo
  have hmk : ∀ w : World, (Instr.makeSlice 123 (.int .i64 (n : Int)) (.int .i64 (n : Int))).run Tryz.prog w = .ok (.slice (some ⟨w.heap.size, 0, none⟩) n n) (w.alloc (.cells (madeCells #[.int .i64 0, .nilIface] (n * 2)) 68)) := fun w => by
    have h := run_make_rowN (P := Tryz.prog) 123 68 i0 (.agg #[.int .i64 0, .nilIface]) Tryz.underlying123 hi0 hz0 .i64 .i64 n n (Nat.le_refl _) (by rw [hz2]; omega) (by omega) w
    rw [hz1] at h
    exact h
  have H := Hd h
  have HRL := Hd hrl
  have HOK := Hd hok
  have HFF := Hd hF
  clear hF
  clear h hrl hok
  go_enter Tryz.func132, Tryz.ntmps132
  go_wp2_with fail
  have hsz2 : ((W.alloc (.cells #[.slice A n c, .int .u8 q] 125)).alloc (.cells #[.slice none 0 0, .int .u8 0] 125)).heap.size = W.heap.size + 2 := by simp
  obtain ⟨css, ho3, hf3⟩ := row_made (R := GeoG) (sz := 2) (e := 68) (w := (W.alloc (.cells #[.slice A n c, .int .u8 q] 125)).alloc (.cells #[.slice none 0 0, .int .u8 0] 125)) (ok := fun b => (ok b ∧ b < W.heap.size) ∨ W.heap.size + 3 ≤ b) (ts := ts.map (forceT Q)) (n := n) (cur := madeCells #[.int .i64 0, .nilIface] (n * 2)) (by rw [List.length_map]; exact HRL.out) (size_madeCells _ _) hn
  have b0 := ((Blk.new W 125 #[.slice A n c, .int .u8 q]).alloc (.cells #[.slice none 0 0, .int .u8 0] 125)).alloc (.cells (madeCells #[.int .i64 0, .nilIface] (n * 2)) 68)
  have b1 := (Blk.new (W.alloc (.cells #[.slice A n c, .int .u8 q] 125)) 125 #[.slice none 0 0, .int .u8 0]).alloc (.cells (madeCells #[.int .i64 0, .nilIface] (n * 2)) 68)
  have hb3 : Below W.heap.size W (((W.alloc (.cells #[.slice A n c, .int .u8 q] 125)).alloc (.cells #[.slice none 0 0, .int .u8 0] 125)).alloc (.cells (madeCells #[.int .i64 0, .nilIface] (n * 2)) 68)) := (((Below.refl _ _).alloc (Nat.le_refl _) _).alloc (by simp) _).alloc (by simp; omega) _
  have hs3 : W.heap.size + 3 ≤ (((W.alloc (.cells #[.slice A n c, .int .u8 q] 125)).alloc (.cells #[.slice none 0 0, .int .u8 0] 125)).alloc (.cells (madeCells #[.int .i64 0, .nilIface] (n * 2)) 68)).heap.size := by simp
  rw [hsz2] at ho3
  rw [World.size_alloc] at b1
  generalize ((W.alloc (.cells #[.slice A n c, .int .u8 q] 125)).alloc (.cells #[.slice none 0 0, .int .u8 0] 125)).alloc (.cells (madeCells #[.int .i64 0, .nilIface] (n * 2)) 68) = w3 at *
  have r0 := b0.cell 0
  have r1 := b0.cell 1
  simp at r0 r1
  have HO3 := Hd ho3
  have HF3 := Hd hf3
  have B0 := Hd b0
  have B1 := Hd b1
  have HB3 := Hd hb3
  clear ho3 hf3 b0 b1 hb3 hsz2
  go_wp2_with fail
  go_loopw [14] (fun i wr => ∃ (k : Nat) (cs : List (List Value)), k ≤ n ∧ i = .int .i64 k ∧ Blk wr W.heap.size 125 #[.slice A n c, .int .u8 q] ∧ Blk wr (W.heap.size + 1) 125 #[.slice none 0 0, .int .u8 0] ∧ wr.ownsRow 0 68 2 (.slice (some ⟨W.heap.size + 2, 0, none⟩) n n) n cs.flatten ∧ FillG GeoG 2 wr (fun b => (ok b ∧ b < W.heap.size) ∨ W.heap.size + 3 ≤ b) (ts.map (forceT Q)) k cs ∧ Below W.heap.size W wr ∧ W.heap.size + 3 ≤ wr.heap.size) (fun i _ => n - (intOf i).toNat)
  case atStart => exact ⟨0, css, Nat.zero_le _, rfl, B0.out, B1.out, HO3.out, HF3.out, HB3.out, hs3⟩
  case round =>
    obtain ⟨k, cs, hk, rfl, x0, x1, ow, md, hbr, hsr⟩ := hrel
    clear r0 r1
    have r0 := x0.cell 0
    have r1 := x0.cell 1
    simp at r0 r1
    by_cases hlt : k < n
    · obtain ⟨g, x, s, rfl, hgok, hr, hxl, hcl, hrs, hgl⟩ := row_at HRL.out H.out hlt
      replace hgl := hgl (by decide)
      have hsm : s ∈ ts := List.mem_of_getElem? hr
      obtain ⟨rq, rT, ra, rfl, -⟩ := hrs.shape
      have j0 := (hbr.cell (p := ⟨g, k * 2 + 0, none⟩) hgl).trans (hcl 0 _ rfl)
      have j1 := (hbr.cell (p := ⟨g, k * 2 + 1, none⟩) hgl).trans (hcl 1 _ rfl)
      rw [Nat.add_zero] at j0
      have hcall := HFF.out s hsm Q Q0 Q1 wr (GeoG.keeps _ _ _ (fun b => ok b ∧ b < W.heap.size) _ _ hrs (fun b _ hl => hbr.block b hl) (fun b h hl => ⟨h.1, hl⟩)) (HOK.out s hsm)
      have hclen : k < cs.length := by rw [md.1, List.length_map, HRL.out]; exact hlt
      have hck : cs[k]? = some (cs[k]'hclen) := List.getElem?_eq_getElem _
      generalize (cs[k]'hclen) = z at hck
      obtain ⟨za, zb, rfl⟩ := list2 (md.2.1 z (List.mem_of_getElem? hck))
      have ad : ∀ g j : Nat, (⟨g, 0, none⟩ : Addr).add j = ⟨g, j, none⟩ := fun g j => by unfold Addr.add; split <;> simp_all
      have k0 := ow.cells (g := W.heap.size + 2) rfl (k * 2 + 0) za (by rw [flat_at md.2.1 hck (by omega)]; rfl)
      have k1 := ow.cells (g := W.heap.size + 2) rfl (k * 2 + 1) zb (by rw [flat_at md.2.1 hck (by omega)]; rfl)
      rw [ad] at k0 k1
      rw [Nat.add_zero] at k0
      have hrk : (ts.map (forceT Q))[k]? = some (forceT Q s) := by rw [List.getElem?_map, hr]; rfl
      have HCALL := Hd hcall
      have OW := Hd ow
      have MD := Hd md
      have X0 := Hd x0
      have X1 := Hd x1
      have HBR := Hd hbr
      have HRK := Hd hrk
      clear hcall ow md x0 x1 hbr hr hck hrk hsm hcl hrs
      go_wp2_with fail
      refine HCALL.out.mono ?_
      rintro e w5 ⟨yq, yT, ya, rfl, h5, b5⟩
      have o5 : w5.ownsRow 0 68 2 (.slice (some ⟨W.heap.size + 2, 0, none⟩) n n) n cs.flatten := own_keep OW.out (fun b _ hb => b5.block b hb)
      have y0 := own_frozen o5 (g := W.heap.size + 2) rfl (k * 2)
      have y1 := own_frozen o5 (g := W.heap.size + 2) rfl (k * 2 + 1)
      have q0 := (b5.cell (p := ⟨W.heap.size + 2, k * 2, none⟩) (by show W.heap.size + 2 < _; omega)).trans k0
      have q1 := (b5.cell (p := ⟨W.heap.size + 2, k * 2 + 1, none⟩) (by show W.heap.size + 2 < _; omega)).trans k1
      have O5 := Hd o5
      have H5 := Hd h5
      have B5 := Hd b5
      clear o5 h5 b5 k0 k1 j0 j1 r0 r1
      go_wp2
      go_roundw
      case rel =>
        have hheap : ∀ b, b ≠ W.heap.size + 2 → ((w5.setCell ⟨W.heap.size + 2, k * 2, none⟩ (.int .i64 yq)).setCell ⟨W.heap.size + 2, k * 2 + 1, none⟩ (.iface yT (.pointer (some ⟨ya, 0, none⟩)))).heap[b]? = w5.heap[b]? := fun b hb => by
          rw [Below.heap_setCell _ _ _ b hb, Below.heap_setCell _ _ _ b hb]
        have hfl : cs.flatten.length = n * 2 := OW.out.1
        have hs5 := B5.out.size
        refine ⟨k + 1, cs.set k [.int .i64 yq, .iface yT (.pointer (some ⟨ya, 0, none⟩))], by omega, by go_num, ((X0.out.below B5.out X0.out.lt).far (by show W.heap.size ≠ W.heap.size + 2; omega) _).far (by show W.heap.size ≠ W.heap.size + 2; omega) _, ((X1.out.below B5.out X1.out.lt).far (by show W.heap.size + 1 ≠ W.heap.size + 2; omega) _).far (by show W.heap.size + 1 ≠ W.heap.size + 2; omega) _, ?_, FillG.next (FillG.keep GeoG.keeps MD.out (fun b hb hl => (hheap b (by omega)).trans (B5.out.block b hl)) (fun b hb _ => hb)) HRK.out rfl (GeoG.keeps _ _ _ _ _ _ H5.out (fun b hb _ => hheap b ?_) (fun b hb _ => ?_)), below_setCell' (below_setCell' (HBR.out.trans (B5.out.mono HBR.out.size)) (by show W.heap.size ≤ W.heap.size + 2; omega) _) (by show W.heap.size ≤ W.heap.size + 2; omega) _, by simp [World.setCell]; omega⟩
        · rw [flat_set2 MD.out.2.1 hclen]
          exact own_store (own_store O5.out rfl (by rw [hfl]; omega) _) rfl (by rw [List.length_set, hfl]; omega) _
        · rcases hb with h | h
          · have := h.2; omega
          · omega
        · rcases hb with h | h
          · exact .inl h
          · exact .inr (by omega)
      case measure => simp [intOf]; omega
    · obtain rfl : n = k := by omega
      have c0 := x1.cell 0
      have c1' := x1.cell 1
      have z0 := x1.frozen 0
      have z1 := x1.frozen 1
      simp at c0 c1'
      have e0 : (wr.setCell ⟨W.heap.size + 1, 0, none⟩ (.slice (some ⟨W.heap.size + 2, 0, none⟩) n n)).cell? ⟨W.heap.size + 1, 0, none⟩ = some (.slice (some ⟨W.heap.size + 2, 0, none⟩) n n) := by simpa using (x1.set_ 0 (.slice (some ⟨W.heap.size + 2, 0, none⟩) n n)).cell 0
      have e1 : ((wr.setCell ⟨W.heap.size + 1, 0, none⟩ (.slice (some ⟨W.heap.size + 2, 0, none⟩) n n)).setCell ⟨W.heap.size + 1, 1, none⟩ (.int .u8 Q)).cell? ⟨W.heap.size + 1, 1, none⟩ = some (.int .u8 Q) := by simpa using ((x1.set_ 0 (.slice (some ⟨W.heap.size + 2, 0, none⟩) n n)).set_ 1 (.int .u8 Q)).cell 1
      have hrow : KRow GeoG 68 2 wr (fun b => (ok b ∧ b < W.heap.size) ∨ W.heap.size + 2 ≤ b) (.slice (some ⟨W.heap.size + 2, 0, none⟩) n n) (ts.map (forceT Q)) :=
        FillG.row GeoG.keeps md (by rw [List.length_map, HRL.out]) ow (fun b hb => ⟨by rcases hb with h | h; exact .inl h; exact .inr (by omega), by omega⟩) (.inr (Nat.le_refl _))
      have ROW := Hd hrow
      have HBR := Hd hbr
      clear hrow hbr x0 x1 ow md
      go_wp2
      refine bodyPost_ret (by simp [results, Tryz.results132, go_sem, e0, e1]; try rfl) rfl ?_
      refine ⟨some ⟨W.heap.size + 2, 0, none⟩, n, n, Q, rfl, ⟨some ⟨W.heap.size + 2, 0, none⟩, n, n, Q, _, rfl, rfl, Q0, Q1, by rw [List.length_map, HRL.out], hn, KRow.keep GeoG.keeps ROW.out (fun b hb _ => ?_) (fun b hb _ => ?_)⟩, ?_⟩
      · have hne : b ≠ W.heap.size + 1 := by rcases hb with h | h <;> omega
        rw [Below.heap_setCell _ _ _ b hne, Below.heap_setCell _ _ _ b hne]
      · rcases hb with h | h
        · exact .inl h.1
        · exact .inr (by omega)
      · exact below_setCell' (below_setCell' HBR.out (Nat.le_succ _) _) (Nat.le_succ _) _

theorem GcForce_G (Q : Int) (Q0 : 0 ≤ Q) (Q1 : Q ≤ 3) {ok : Nat → Prop} {A : Option Addr} {n c : Nat} {q : Int} {t : Gm} (W : World) (h : GcG W ok [.slice A n c, .int .u8 q] t) (ho : OkT t) (hF : ∀ s ∈ t.kids, GeoForceAt s) :
    Calls Tryz.prog 132 #[.agg #[.slice A n c, .int .u8 q], .int .u8 Q] W fun e w' => ∃ (A' : Option Addr) (n' c' : Nat) (q' : Int), e = .returned (.agg #[.slice A' n' c', .int .u8 q']) ∧ GcG w' (fun b => ok b ∨ W.heap.size ≤ b) [.slice A' n' c', .int .u8 q'] (forceT Q t) ∧ Below W.heap.size W w' := by
  obtain ⟨A', n', c', q', ks, rfl, e, h0, h1, hl, hn, hr⟩ := h
  simp only [List.cons.injEq, Value.slice.injEq, Value.int.injEq, and_true, true_and] at e
  obtain ⟨⟨rfl, rfl, rfl⟩, rfl⟩ := e
  rw [forceT_mk, row_force_nil]
  cases ho with
  | mk d0 d1 hn' hm hk => exact GcForce_raw Q Q0 Q1 q W hr hl hk hn hF

end Go.Proofs.YtofdccmmagcamaaGreatDoor

/- Geometries of any kind: brought to a type. -/
set_option maxHeartbeats 8000000
set_option linter.unusedSimpArgs false
set_option linter.unusedVariables false
namespace Go.Proofs.YtofdccmmagcamaaGreatDoor
open Go.RowKit Go.Proofs.YtofdccmmagcamaaGreatDoorW.PrintLast

attribute [local go_sem] run_store_float

attribute [local go_sem] asPt asLs asPg asMp asMl asMy asGc

set_option maxRecDepth 100000 in
theorem GeoForce_Pt (Q : Int) (Q0 : 0 ≤ Q) (Q1 : Q ≤ 3) {ok : Nat → Prop} (x y z m : Nat) (q : Int) (f : Bool) {t : Gm} (a : Nat) (W : World) (hb : Blk W a 109 #[.float .f64 x, .float .f64 y, .float .f64 z, .float .f64 m, .int .u8 q, .bool f]) (h : PtG W ok [.float .f64 x, .float .f64 y, .float .f64 z, .float .f64 m, .int .u8 q, .bool f] t) (ho : OkT t) :
    Calls Tryz.prog 172 #[.agg #[.int .i64 1, .iface 128 (.pointer (some ⟨a, 0, none⟩))], .int .u8 Q] W fun e w' => ∃ (q' : Int) (T' a' : Nat), e = .returned (.agg #[.int .i64 q', .iface T' (.pointer (some ⟨a', 0, none⟩))]) ∧ GeoG w' (fun b => ok b ∨ W.heap.size ≤ b) [.int .i64 q', .iface T' (.pointer (some ⟨a', 0, none⟩))] (forceT Q t) ∧ Below W.heap.size W w' := by
  have hb2 : Below W.heap.size W ((W.alloc (.cells #[.int .i64 1, .iface 128 (.pointer (some ⟨a, 0, none⟩))] 68)).alloc (.cells #[.int .i64 0, .nilIface] 68)) := ((Below.refl _ _).alloc (Nat.le_refl _) _).alloc (by simp) _
  have hx := Blk.new (W.alloc (.cells #[.int .i64 1, .iface 128 (.pointer (some ⟨a, 0, none⟩))] 68)) 68 #[.int .i64 0, .nilIface]
  have hsz2 : ((W.alloc (.cells #[.int .i64 1, .iface 128 (.pointer (some ⟨a, 0, none⟩))] 68)).alloc (.cells #[.int .i64 0, .nilIface] 68)).heap.size = W.heap.size + 2 := by simp
  rw [World.size_alloc] at hx
  have HM := Hd (MustPt x y z m q f a ((W.alloc (.cells #[.int .i64 1, .iface 128 (.pointer (some ⟨a, 0, none⟩))] 68)).alloc (.cells #[.int .i64 0, .nilIface] 68)) (hb.below hb2 hb.lt))
  have HX := Hd hx
  have HB2 := Hd hb2
  have HH := Hd (PtG.keeps _ _ _ (fun b => ok b ∧ b < W.heap.size) _ _ h (fun b _ hl => hb2.block b hl) (fun b h hl => ⟨h, hl⟩))
  have HO := Hd ho
  have HS2 := Hd hsz2
  clear hb2 hx hb h ho hsz2
  go_enter Tryz.func172, Tryz.ntmps172
  go_wp2_with fail
  refine HM.out.mono ?_
  rintro e w1 ⟨rfl, b1⟩
  have HF := Hd (PtForce_G Q Q0 Q1 w1 (PtG.keeps _ _ _ (fun b => ok b ∧ b < W.heap.size) _ _ HH.out (fun b hb _ => b1.block b (Nat.lt_of_lt_of_le hb.2 HB2.out.size)) (fun b h _ => h)) HO.out)
  have HB3 := Hd (HB2.out.trans (b1.mono HB2.out.size))
  have x1 := HX.out.below b1 HX.out.lt
  have hs1 : W.heap.size + 2 ≤ w1.heap.size := by have := b1.size; have := HS2.out; omega
  clear b1
  have X1 := Hd x1
  clear x1
  go_wp2_with fail
  refine HF.out.mono ?_
  rintro e w2 ⟨yx, yy, yz, ym, yq, yf, rfl, h2, b2⟩
  have HB4 := Hd (HB3.out.trans (b2.mono HB3.out.size))
  have X2 := Hd (X1.out.below b2 X1.out.lt)
  have H2 := Hd h2
  have hs2 : W.heap.size + 2 ≤ w2.heap.size := by have := b2.size; omega
  clear h2 b2
  go_wp2_with fail
  refine (AsPt yx yy yz ym yq yf w2).mono ?_
  rintro e w3 ⟨a', rfl, ha', hblk, b3⟩
  have HB5 := Hd (HB4.out.trans (b3.mono HB4.out.size))
  have x3 := X2.out.below b3 X2.out.lt
  have z0 := x3.frozen 0
  have z1 := x3.frozen 1
  have y0 := x3.cell 0
  have y1 := x3.cell 1
  simp at y0 y1
  have e0 : (w3.setCell ⟨W.heap.size + 1, 0, none⟩ (.int .i64 1)).cell? ⟨W.heap.size + 1, 0, none⟩ = some (.int .i64 1) := by simpa using (x3.set_ 0 (.int .i64 1)).cell 0
  have e1 : ((w3.setCell ⟨W.heap.size + 1, 0, none⟩ (.int .i64 1)).setCell ⟨W.heap.size + 1, 1, none⟩ (.iface 128 (.pointer (some ⟨a', 0, none⟩)))).cell? ⟨W.heap.size + 1, 1, none⟩ = some (.iface 128 (.pointer (some ⟨a', 0, none⟩))) := by simpa using ((x3.set_ 0 (.int .i64 1)).set_ 1 (.iface 128 (.pointer (some ⟨a', 0, none⟩)))).cell 1
  have hgeo : GeoG w3 (fun b => (ok b ∧ b < W.heap.size) ∨ W.heap.size + 2 ≤ b) [.int .i64 1, .iface 128 (.pointer (some ⟨a', 0, none⟩))] (forceT Q t) := by
    have hr := PtG.keeps _ w3 _ (fun b => (ok b ∧ b < W.heap.size) ∨ W.heap.size + 2 ≤ b) _ _ H2.out (fun b _ hl => b3.block b hl) (fun b hb _ => by rcases hb with h | h; exact .inl h; exact .inr (by omega))
    exact .leaf (.inl ⟨rfl, rfl, rfl, hr⟩) (.inr (by omega)) hblk
  have HGEO := Hd hgeo
  clear hgeo b3 x3 hblk
  go_wp2
  refine bodyPost_ret (by simp [results, Tryz.results172, go_sem, e0, e1]; try rfl) rfl ?_
  refine ⟨_, _, _, rfl, GeoG.keeps _ _ _ _ _ _ HGEO.out (fun b hb _ => ?_) (fun b hb _ => ?_), ?_⟩
  · have hne : b ≠ W.heap.size + 1 := by rcases hb with h | h <;> omega
    rw [Below.heap_setCell _ _ _ b hne, Below.heap_setCell _ _ _ b hne]
  · rcases hb with h | h
    · exact .inl h.1
    · exact .inr (by omega)
  · exact below_setCell' (below_setCell' HB5.out (Nat.le_succ _) _) (Nat.le_succ _) _

set_option maxRecDepth 100000 in
theorem GeoForce_Ls (Q : Int) (Q0 : 0 ≤ Q) (Q1 : Q ≤ 3) {ok : Nat → Prop} (q : Int) (A : Option Addr) (n c : Nat) {t : Gm} (a : Nat) (W : World) (hb : Blk W a 89 #[.int .u8 q, .slice A n c]) (h : LsG W ok [.int .u8 q, .slice A n c] t) (ho : OkT t) :
    Calls Tryz.prog 172 #[.agg #[.int .i64 2, .iface 129 (.pointer (some ⟨a, 0, none⟩))], .int .u8 Q] W fun e w' => ∃ (q' : Int) (T' a' : Nat), e = .returned (.agg #[.int .i64 q', .iface T' (.pointer (some ⟨a', 0, none⟩))]) ∧ GeoG w' (fun b => ok b ∨ W.heap.size ≤ b) [.int .i64 q', .iface T' (.pointer (some ⟨a', 0, none⟩))] (forceT Q t) ∧ Below W.heap.size W w' := by
  have hb2 : Below W.heap.size W ((W.alloc (.cells #[.int .i64 2, .iface 129 (.pointer (some ⟨a, 0, none⟩))] 68)).alloc (.cells #[.int .i64 0, .nilIface] 68)) := ((Below.refl _ _).alloc (Nat.le_refl _) _).alloc (by simp) _
  have hx := Blk.new (W.alloc (.cells #[.int .i64 2, .iface 129 (.pointer (some ⟨a, 0, none⟩))] 68)) 68 #[.int .i64 0, .nilIface]
  have hsz2 : ((W.alloc (.cells #[.int .i64 2, .iface 129 (.pointer (some ⟨a, 0, none⟩))] 68)).alloc (.cells #[.int .i64 0, .nilIface] 68)).heap.size = W.heap.size + 2 := by simp
  rw [World.size_alloc] at hx
  have HM := Hd (MustLs q A n c a ((W.alloc (.cells #[.int .i64 2, .iface 129 (.pointer (some ⟨a, 0, none⟩))] 68)).alloc (.cells #[.int .i64 0, .nilIface] 68)) (hb.below hb2 hb.lt))
  have HX := Hd hx
  have HB2 := Hd hb2
  have HH := Hd (LsG.keeps _ _ _ (fun b => ok b ∧ b < W.heap.size) _ _ h (fun b _ hl => hb2.block b hl) (fun b h hl => ⟨h, hl⟩))
  have HO := Hd ho
  have HS2 := Hd hsz2
  clear hb2 hx hb h ho hsz2
  go_enter Tryz.func172, Tryz.ntmps172
  go_wp2_with fail
  refine HM.out.mono ?_
  rintro e w1 ⟨rfl, b1⟩
  have HF := Hd (LsForce_G Q Q0 Q1 w1 (LsG.keeps _ _ _ (fun b => ok b ∧ b < W.heap.size) _ _ HH.out (fun b hb _ => b1.block b (Nat.lt_of_lt_of_le hb.2 HB2.out.size)) (fun b h _ => h)) HO.out)
  have HB3 := Hd (HB2.out.trans (b1.mono HB2.out.size))
  have x1 := HX.out.below b1 HX.out.lt
  have hs1 : W.heap.size + 2 ≤ w1.heap.size := by have := b1.size; have := HS2.out; omega
  clear b1
  have X1 := Hd x1
  clear x1
  go_wp2_with fail
  refine HF.out.mono ?_
  rintro e w2 ⟨yq, yA, yn, yc, rfl, h2, b2⟩
  have HB4 := Hd (HB3.out.trans (b2.mono HB3.out.size))
  have X2 := Hd (X1.out.below b2 X1.out.lt)
  have H2 := Hd h2
  have hs2 : W.heap.size + 2 ≤ w2.heap.size := by have := b2.size; omega
  clear h2 b2
  go_wp2_with fail
  refine (AsLs yq yA yn yc w2).mono ?_
  rintro e w3 ⟨a', rfl, ha', hblk, b3⟩
  have HB5 := Hd (HB4.out.trans (b3.mono HB4.out.size))
  have x3 := X2.out.below b3 X2.out.lt
  have z0 := x3.frozen 0
  have z1 := x3.frozen 1
  have y0 := x3.cell 0
  have y1 := x3.cell 1
  simp at y0 y1
  have e0 : (w3.setCell ⟨W.heap.size + 1, 0, none⟩ (.int .i64 2)).cell? ⟨W.heap.size + 1, 0, none⟩ = some (.int .i64 2) := by simpa using (x3.set_ 0 (.int .i64 2)).cell 0
  have e1 : ((w3.setCell ⟨W.heap.size + 1, 0, none⟩ (.int .i64 2)).setCell ⟨W.heap.size + 1, 1, none⟩ (.iface 129 (.pointer (some ⟨a', 0, none⟩)))).cell? ⟨W.heap.size + 1, 1, none⟩ = some (.iface 129 (.pointer (some ⟨a', 0, none⟩))) := by simpa using ((x3.set_ 0 (.int .i64 2)).set_ 1 (.iface 129 (.pointer (some ⟨a', 0, none⟩)))).cell 1
  have hgeo : GeoG w3 (fun b => (ok b ∧ b < W.heap.size) ∨ W.heap.size + 2 ≤ b) [.int .i64 2, .iface 129 (.pointer (some ⟨a', 0, none⟩))] (forceT Q t) := by
    have hr := LsG.keeps _ w3 _ (fun b => (ok b ∧ b < W.heap.size) ∨ W.heap.size + 2 ≤ b) _ _ H2.out (fun b _ hl => b3.block b hl) (fun b hb _ => by rcases hb with h | h; exact .inl h; exact .inr (by omega))
    exact .leaf (.inr (.inl ⟨rfl, rfl, rfl, hr⟩)) (.inr (by omega)) hblk
  have HGEO := Hd hgeo
  clear hgeo b3 x3 hblk
  go_wp2
  refine bodyPost_ret (by simp [results, Tryz.results172, go_sem, e0, e1]; try rfl) rfl ?_
  refine ⟨_, _, _, rfl, GeoG.keeps _ _ _ _ _ _ HGEO.out (fun b hb _ => ?_) (fun b hb _ => ?_), ?_⟩
  · have hne : b ≠ W.heap.size + 1 := by rcases hb with h | h <;> omega
    rw [Below.heap_setCell _ _ _ b hne, Below.heap_setCell _ _ _ b hne]
  · rcases hb with h | h
    · exact .inl h.1
    · exact .inr (by omega)
  · exact below_setCell' (below_setCell' HB5.out (Nat.le_succ _) _) (Nat.le_succ _) _

set_option maxRecDepth 100000 in
theorem GeoForce_Pg (Q : Int) (Q0 : 0 ≤ Q) (Q1 : Q ≤ 3) {ok : Nat → Prop} (A : Option Addr) (n c : Nat) (q : Int) {t : Gm} (a : Nat) (W : World) (hb : Blk W a 60 #[.slice A n c, .int .u8 q]) (h : PgG W ok [.slice A n c, .int .u8 q] t) (ho : OkT t) :
    Calls Tryz.prog 172 #[.agg #[.int .i64 3, .iface 130 (.pointer (some ⟨a, 0, none⟩))], .int .u8 Q] W fun e w' => ∃ (q' : Int) (T' a' : Nat), e = .returned (.agg #[.int .i64 q', .iface T' (.pointer (some ⟨a', 0, none⟩))]) ∧ GeoG w' (fun b => ok b ∨ W.heap.size ≤ b) [.int .i64 q', .iface T' (.pointer (some ⟨a', 0, none⟩))] (forceT Q t) ∧ Below W.heap.size W w' := by
  have hb2 : Below W.heap.size W ((W.alloc (.cells #[.int .i64 3, .iface 130 (.pointer (some ⟨a, 0, none⟩))] 68)).alloc (.cells #[.int .i64 0, .nilIface] 68)) := ((Below.refl _ _).alloc (Nat.le_refl _) _).alloc (by simp) _
  have hx := Blk.new (W.alloc (.cells #[.int .i64 3, .iface 130 (.pointer (some ⟨a, 0, none⟩))] 68)) 68 #[.int .i64 0, .nilIface]
  have hsz2 : ((W.alloc (.cells #[.int .i64 3, .iface 130 (.pointer (some ⟨a, 0, none⟩))] 68)).alloc (.cells #[.int .i64 0, .nilIface] 68)).heap.size = W.heap.size + 2 := by simp
  rw [World.size_alloc] at hx
  have HM := Hd (MustPg A n c q a ((W.alloc (.cells #[.int .i64 3, .iface 130 (.pointer (some ⟨a, 0, none⟩))] 68)).alloc (.cells #[.int .i64 0, .nilIface] 68)) (hb.below hb2 hb.lt))
  have HX := Hd hx
  have HB2 := Hd hb2
  have HH := Hd (PgG.keeps _ _ _ (fun b => ok b ∧ b < W.heap.size) _ _ h (fun b _ hl => hb2.block b hl) (fun b h hl => ⟨h, hl⟩))
  have HO := Hd ho
  have HS2 := Hd hsz2
  clear hb2 hx hb h ho hsz2
  go_enter Tryz.func172, Tryz.ntmps172
  go_wp2_with fail
  refine HM.out.mono ?_
  rintro e w1 ⟨rfl, b1⟩
  have HF := Hd (PgForce_G Q Q0 Q1 w1 (PgG.keeps _ _ _ (fun b => ok b ∧ b < W.heap.size) _ _ HH.out (fun b hb _ => b1.block b (Nat.lt_of_lt_of_le hb.2 HB2.out.size)) (fun b h _ => h)) HO.out)
  have HB3 := Hd (HB2.out.trans (b1.mono HB2.out.size))
  have x1 := HX.out.below b1 HX.out.lt
  have hs1 : W.heap.size + 2 ≤ w1.heap.size := by have := b1.size; have := HS2.out; omega
  clear b1
  have X1 := Hd x1
  clear x1
  go_wp2_with fail
  refine HF.out.mono ?_
  rintro e w2 ⟨yA, yn, yc, yq, rfl, h2, b2⟩
  have HB4 := Hd (HB3.out.trans (b2.mono HB3.out.size))
  have X2 := Hd (X1.out.below b2 X1.out.lt)
  have H2 := Hd h2
  have hs2 : W.heap.size + 2 ≤ w2.heap.size := by have := b2.size; omega
  clear h2 b2
  go_wp2_with fail
  refine (AsPg yA yn yc yq w2).mono ?_
  rintro e w3 ⟨a', rfl, ha', hblk, b3⟩
  have HB5 := Hd (HB4.out.trans (b3.mono HB4.out.size))
  have x3 := X2.out.below b3 X2.out.lt
  have z0 := x3.frozen 0
  have z1 := x3.frozen 1
  have y0 := x3.cell 0
  have y1 := x3.cell 1
  simp at y0 y1
  have e0 : (w3.setCell ⟨W.heap.size + 1, 0, none⟩ (.int .i64 3)).cell? ⟨W.heap.size + 1, 0, none⟩ = some (.int .i64 3) := by simpa using (x3.set_ 0 (.int .i64 3)).cell 0
  have e1 : ((w3.setCell ⟨W.heap.size + 1, 0, none⟩ (.int .i64 3)).setCell ⟨W.heap.size + 1, 1, none⟩ (.iface 130 (.pointer (some ⟨a', 0, none⟩)))).cell? ⟨W.heap.size + 1, 1, none⟩ = some (.iface 130 (.pointer (some ⟨a', 0, none⟩))) := by simpa using ((x3.set_ 0 (.int .i64 3)).set_ 1 (.iface 130 (.pointer (some ⟨a', 0, none⟩)))).cell 1
  have hgeo : GeoG w3 (fun b => (ok b ∧ b < W.heap.size) ∨ W.heap.size + 2 ≤ b) [.int .i64 3, .iface 130 (.pointer (some ⟨a', 0, none⟩))] (forceT Q t) := by
    have hr := PgG.keeps _ w3 _ (fun b => (ok b ∧ b < W.heap.size) ∨ W.heap.size + 2 ≤ b) _ _ H2.out (fun b _ hl => b3.block b hl) (fun b hb _ => by rcases hb with h | h; exact .inl h; exact .inr (by omega))
    exact .leaf (.inr (.inr (.inl ⟨rfl, rfl, rfl, hr⟩))) (.inr (by omega)) hblk
  have HGEO := Hd hgeo
  clear hgeo b3 x3 hblk
  go_wp2
  refine bodyPost_ret (by simp [results, Tryz.results172, go_sem, e0, e1]; try rfl) rfl ?_
  refine ⟨_, _, _, rfl, GeoG.keeps _ _ _ _ _ _ HGEO.out (fun b hb _ => ?_) (fun b hb _ => ?_), ?_⟩
  · have hne : b ≠ W.heap.size + 1 := by rcases hb with h | h <;> omega
    rw [Below.heap_setCell _ _ _ b hne, Below.heap_setCell _ _ _ b hne]
  · rcases hb with h | h
    · exact .inl h.1
    · exact .inr (by omega)
  · exact below_setCell' (below_setCell' HB5.out (Nat.le_succ _) _) (Nat.le_succ _) _

set_option maxRecDepth 100000 in
theorem GeoForce_Mp (Q : Int) (Q0 : 0 ≤ Q) (Q1 : Q ≤ 3) {ok : Nat → Prop} (A : Option Addr) (n c : Nat) (q : Int) {t : Gm} (a : Nat) (W : World) (hb : Blk W a 114 #[.slice A n c, .int .u8 q]) (h : MpG W ok [.slice A n c, .int .u8 q] t) (ho : OkT t) :
    Calls Tryz.prog 172 #[.agg #[.int .i64 4, .iface 131 (.pointer (some ⟨a, 0, none⟩))], .int .u8 Q] W fun e w' => ∃ (q' : Int) (T' a' : Nat), e = .returned (.agg #[.int .i64 q', .iface T' (.pointer (some ⟨a', 0, none⟩))]) ∧ GeoG w' (fun b => ok b ∨ W.heap.size ≤ b) [.int .i64 q', .iface T' (.pointer (some ⟨a', 0, none⟩))] (forceT Q t) ∧ Below W.heap.size W w' := by
  have hb2 : Below W.heap.size W ((W.alloc (.cells #[.int .i64 4, .iface 131 (.pointer (some ⟨a, 0, none⟩))] 68)).alloc (.cells #[.int .i64 0, .nilIface] 68)) := ((Below.refl _ _).alloc (Nat.le_refl _) _).alloc (by simp) _
  have hx := Blk.new (W.alloc (.cells #[.int .i64 4, .iface 131 (.pointer (some ⟨a, 0, none⟩))] 68)) 68 #[.int .i64 0, .nilIface]
  have hsz2 : ((W.alloc (.cells #[.int .i64 4, .iface 131 (.pointer (some ⟨a, 0, none⟩))] 68)).alloc (.cells #[.int .i64 0, .nilIface] 68)).heap.size = W.heap.size + 2 := by simp
  rw [World.size_alloc] at hx
  have HM := Hd (MustMp A n c q a ((W.alloc (.cells #[.int .i64 4, .iface 131 (.pointer (some ⟨a, 0, none⟩))] 68)).alloc (.cells #[.int .i64 0, .nilIface] 68)) (hb.below hb2 hb.lt))
  have HX := Hd hx
  have HB2 := Hd hb2
  have HH := Hd (MpG.keeps _ _ _ (fun b => ok b ∧ b < W.heap.size) _ _ h (fun b _ hl => hb2.block b hl) (fun b h hl => ⟨h, hl⟩))
  have HO := Hd ho
  have HS2 := Hd hsz2
  clear hb2 hx hb h ho hsz2
  go_enter Tryz.func172, Tryz.ntmps172
  go_wp2_with fail
  refine HM.out.mono ?_
  rintro e w1 ⟨rfl, b1⟩
  have HF := Hd (MpForce_G Q Q0 Q1 w1 (MpG.keeps _ _ _ (fun b => ok b ∧ b < W.heap.size) _ _ HH.out (fun b hb _ => b1.block b (Nat.lt_of_lt_of_le hb.2 HB2.out.size)) (fun b h _ => h)) HO.out)
  have HB3 := Hd (HB2.out.trans (b1.mono HB2.out.size))
  have x1 := HX.out.below b1 HX.out.lt
  have hs1 : W.heap.size + 2 ≤ w1.heap.size := by have := b1.size; have := HS2.out; omega
  clear b1
  have X1 := Hd x1
  clear x1
  go_wp2_with fail
  refine HF.out.mono ?_
  rintro e w2 ⟨yA, yn, yc, yq, rfl, h2, b2⟩
  have HB4 := Hd (HB3.out.trans (b2.mono HB3.out.size))
  have X2 := Hd (X1.out.below b2 X1.out.lt)
  have H2 := Hd h2
  have hs2 : W.heap.size + 2 ≤ w2.heap.size := by have := b2.size; omega
  clear h2 b2
  go_wp2_with fail
  refine (AsMp yA yn yc yq w2).mono ?_
  rintro e w3 ⟨a', rfl, ha', hblk, b3⟩
  have HB5 := Hd (HB4.out.trans (b3.mono HB4.out.size))
  have x3 := X2.out.below b3 X2.out.lt
  have z0 := x3.frozen 0
  have z1 := x3.frozen 1
  have y0 := x3.cell 0
  have y1 := x3.cell 1
  simp at y0 y1
  have e0 : (w3.setCell ⟨W.heap.size + 1, 0, none⟩ (.int .i64 4)).cell? ⟨W.heap.size + 1, 0, none⟩ = some (.int .i64 4) := by simpa using (x3.set_ 0 (.int .i64 4)).cell 0
  have e1 : ((w3.setCell ⟨W.heap.size + 1, 0, none⟩ (.int .i64 4)).setCell ⟨W.heap.size + 1, 1, none⟩ (.iface 131 (.pointer (some ⟨a', 0, none⟩)))).cell? ⟨W.heap.size + 1, 1, none⟩ = some (.iface 131 (.pointer (some ⟨a', 0, none⟩))) := by simpa using ((x3.set_ 0 (.int .i64 4)).set_ 1 (.iface 131 (.pointer (some ⟨a', 0, none⟩)))).cell 1
  have hgeo : GeoG w3 (fun b => (ok b ∧ b < W.heap.size) ∨ W.heap.size + 2 ≤ b) [.int .i64 4, .iface 131 (.pointer (some ⟨a', 0, none⟩))] (forceT Q t) := by
    have hr := MpG.keeps _ w3 _ (fun b => (ok b ∧ b < W.heap.size) ∨ W.heap.size + 2 ≤ b) _ _ H2.out (fun b _ hl => b3.block b hl) (fun b hb _ => by rcases hb with h | h; exact .inl h; exact .inr (by omega))
    exact .leaf (.inr (.inr (.inr (.inl ⟨rfl, rfl, rfl, hr⟩)))) (.inr (by omega)) hblk
  have HGEO := Hd hgeo
  clear hgeo b3 x3 hblk
  go_wp2
  refine bodyPost_ret (by simp [results, Tryz.results172, go_sem, e0, e1]; try rfl) rfl ?_
  refine ⟨_, _, _, rfl, GeoG.keeps _ _ _ _ _ _ HGEO.out (fun b hb _ => ?_) (fun b hb _ => ?_), ?_⟩
  · have hne : b ≠ W.heap.size + 1 := by rcases hb with h | h <;> omega
    rw [Below.heap_setCell _ _ _ b hne, Below.heap_setCell _ _ _ b hne]
  · rcases hb with h | h
    · exact .inl h.1
    · exact .inr (by omega)
  · exact below_setCell' (below_setCell' HB5.out (Nat.le_succ _) _) (Nat.le_succ _) _

set_option maxRecDepth 100000 in
theorem GeoForce_Ml (Q : Int) (Q0 : 0 ≤ Q) (Q1 : Q ≤ 3) {ok : Nat → Prop} (A : Option Addr) (n c : Nat) (q : Int) {t : Gm} (a : Nat) (W : World) (hb : Blk W a 117 #[.slice A n c, .int .u8 q]) (h : MlG W ok [.slice A n c, .int .u8 q] t) (ho : OkT t) :
    Calls Tryz.prog 172 #[.agg #[.int .i64 5, .iface 132 (.pointer (some ⟨a, 0, none⟩))], .int .u8 Q] W fun e w' => ∃ (q' : Int) (T' a' : Nat), e = .returned (.agg #[.int .i64 q', .iface T' (.pointer (some ⟨a', 0, none⟩))]) ∧ GeoG w' (fun b => ok b ∨ W.heap.size ≤ b) [.int .i64 q', .iface T' (.pointer (some ⟨a', 0, none⟩))] (forceT Q t) ∧ Below W.heap.size W w' := by
  have hb2 : Below W.heap.size W ((W.alloc (.cells #[.int .i64 5, .iface 132 (.pointer (some ⟨a, 0, none⟩))] 68)).alloc (.cells #[.int .i64 0, .nilIface] 68)) := ((Below.refl _ _).alloc (Nat.le_refl _) _).alloc (by simp) _
  have hx := Blk.new (W.alloc (.cells #[.int .i64 5, .iface 132 (.pointer (some ⟨a, 0, none⟩))] 68)) 68 #[.int .i64 0, .nilIface]
  have hsz2 : ((W.alloc (.cells #[.int .i64 5, .iface 132 (.pointer (some ⟨a, 0, none⟩))] 68)).alloc (.cells #[.int .i64 0, .nilIface] 68)).heap.size = W.heap.size + 2 := by simp
  rw [World.size_alloc] at hx
  have HM := Hd (MustMl A n c q a ((W.alloc (.cells #[.int .i64 5, .iface 132 (.pointer (some ⟨a, 0, none⟩))] 68)).alloc (.cells #[.int .i64 0, .nilIface] 68)) (hb.below hb2 hb.lt))
  have HX := Hd hx
  have HB2 := Hd hb2
  have HH := Hd (MlG.keeps _ _ _ (fun b => ok b ∧ b < W.heap.size) _ _ h (fun b _ hl => hb2.block b hl) (fun b h hl => ⟨h, hl⟩))
  have HO := Hd ho
  have HS2 := Hd hsz2
  clear hb2 hx hb h ho hsz2
  go_enter Tryz.func172, Tryz.ntmps172
  go_wp2_with fail
  refine HM.out.mono ?_
  rintro e w1 ⟨rfl, b1⟩
  have HF := Hd (MlForce_G Q Q0 Q1 w1 (MlG.keeps _ _ _ (fun b => ok b ∧ b < W.heap.size) _ _ HH.out (fun b hb _ => b1.block b (Nat.lt_of_lt_of_le hb.2 HB2.out.size)) (fun b h _ => h)) HO.out)
  have HB3 := Hd (HB2.out.trans (b1.mono HB2.out.size))
  have x1 := HX.out.below b1 HX.out.lt
  have hs1 : W.heap.size + 2 ≤ w1.heap.size := by have := b1.size; have := HS2.out; omega
  clear b1
  have X1 := Hd x1
  clear x1
  go_wp2_with fail
  refine HF.out.mono ?_
  rintro e w2 ⟨yA, yn, yc, yq, rfl, h2, b2⟩
  have HB4 := Hd (HB3.out.trans (b2.mono HB3.out.size))
  have X2 := Hd (X1.out.below b2 X1.out.lt)
  have H2 := Hd h2
  have hs2 : W.heap.size + 2 ≤ w2.heap.size := by have := b2.size; omega
  clear h2 b2
  go_wp2_with fail
  refine (AsMl yA yn yc yq w2).mono ?_
  rintro e w3 ⟨a', rfl, ha', hblk, b3⟩
  have HB5 := Hd (HB4.out.trans (b3.mono HB4.out.size))
  have x3 := X2.out.below b3 X2.out.lt
  have z0 := x3.frozen 0
  have z1 := x3.frozen 1
  have y0 := x3.cell 0
  have y1 := x3.cell 1
  simp at y0 y1
  have e0 : (w3.setCell ⟨W.heap.size + 1, 0, none⟩ (.int .i64 5)).cell? ⟨W.heap.size + 1, 0, none⟩ = some (.int .i64 5) := by simpa using (x3.set_ 0 (.int .i64 5)).cell 0
  have e1 : ((w3.setCell ⟨W.heap.size + 1, 0, none⟩ (.int .i64 5)).setCell ⟨W.heap.size + 1, 1, none⟩ (.iface 132 (.pointer (some ⟨a', 0, none⟩)))).cell? ⟨W.heap.size + 1, 1, none⟩ = some (.iface 132 (.pointer (some ⟨a', 0, none⟩))) := by simpa using ((x3.set_ 0 (.int .i64 5)).set_ 1 (.iface 132 (.pointer (some ⟨a', 0, none⟩)))).cell 1
  have hgeo : GeoG w3 (fun b => (ok b ∧ b < W.heap.size) ∨ W.heap.size + 2 ≤ b) [.int .i64 5, .iface 132 (.pointer (some ⟨a', 0, none⟩))] (forceT Q t) := by
    have hr := MlG.keeps _ w3 _ (fun b => (ok b ∧ b < W.heap.size) ∨ W.heap.size + 2 ≤ b) _ _ H2.out (fun b _ hl => b3.block b hl) (fun b hb _ => by rcases hb with h | h; exact .inl h; exact .inr (by omega))
    exact .leaf (.inr (.inr (.inr (.inr (.inl ⟨rfl, rfl, rfl, hr⟩))))) (.inr (by omega)) hblk
  have HGEO := Hd hgeo
  clear hgeo b3 x3 hblk
  go_wp2
  refine bodyPost_ret (by simp [results, Tryz.results172, go_sem, e0, e1]; try rfl) rfl ?_
  refine ⟨_, _, _, rfl, GeoG.keeps _ _ _ _ _ _ HGEO.out (fun b hb _ => ?_) (fun b hb _ => ?_), ?_⟩
  · have hne : b ≠ W.heap.size + 1 := by rcases hb with h | h <;> omega
    rw [Below.heap_setCell _ _ _ b hne, Below.heap_setCell _ _ _ b hne]
  · rcases hb with h | h
    · exact .inl h.1
    · exact .inr (by omega)
  · exact below_setCell' (below_setCell' HB5.out (Nat.le_succ _) _) (Nat.le_succ _) _

set_option maxRecDepth 100000 in
theorem GeoForce_My (Q : Int) (Q0 : 0 ≤ Q) (Q1 : Q ≤ 3) {ok : Nat → Prop} (A : Option Addr) (n c : Nat) (q : Int) {t : Gm} (a : Nat) (W : World) (hb : Blk W a 121 #[.slice A n c, .int .u8 q]) (h : MyG W ok [.slice A n c, .int .u8 q] t) (ho : OkT t) :
    Calls Tryz.prog 172 #[.agg #[.int .i64 6, .iface 133 (.pointer (some ⟨a, 0, none⟩))], .int .u8 Q] W fun e w' => ∃ (q' : Int) (T' a' : Nat), e = .returned (.agg #[.int .i64 q', .iface T' (.pointer (some ⟨a', 0, none⟩))]) ∧ GeoG w' (fun b => ok b ∨ W.heap.size ≤ b) [.int .i64 q', .iface T' (.pointer (some ⟨a', 0, none⟩))] (forceT Q t) ∧ Below W.heap.size W w' := by
  have hb2 : Below W.heap.size W ((W.alloc (.cells #[.int .i64 6, .iface 133 (.pointer (some ⟨a, 0, none⟩))] 68)).alloc (.cells #[.int .i64 0, .nilIface] 68)) := ((Below.refl _ _).alloc (Nat.le_refl _) _).alloc (by simp) _
  have hx := Blk.new (W.alloc (.cells #[.int .i64 6, .iface 133 (.pointer (some ⟨a, 0, none⟩))] 68)) 68 #[.int .i64 0, .nilIface]
  have hsz2 : ((W.alloc (.cells #[.int .i64 6, .iface 133 (.pointer (some ⟨a, 0, none⟩))] 68)).alloc (.cells #[.int .i64 0, .nilIface] 68)).heap.size = W.heap.size + 2 := by simp
  rw [World.size_alloc] at hx
  have HM := Hd (MustMy A n c q a ((W.alloc (.cells #[.int .i64 6, .iface 133 (.pointer (some ⟨a, 0, none⟩))] 68)).alloc (.cells #[.int .i64 0, .nilIface] 68)) (hb.below hb2 hb.lt))
  have HX := Hd hx
  have HB2 := Hd hb2
  have HH := Hd (MyG.keeps _ _ _ (fun b => ok b ∧ b < W.heap.size) _ _ h (fun b _ hl => hb2.block b hl) (fun b h hl => ⟨h, hl⟩))
  have HO := Hd ho
  have HS2 := Hd hsz2
  clear hb2 hx hb h ho hsz2
  go_enter Tryz.func172, Tryz.ntmps172
  go_wp2_with fail
  refine HM.out.mono ?_
  rintro e w1 ⟨rfl, b1⟩
  have HF := Hd (MyForce_G Q Q0 Q1 w1 (MyG.keeps _ _ _ (fun b => ok b ∧ b < W.heap.size) _ _ HH.out (fun b hb _ => b1.block b (Nat.lt_of_lt_of_le hb.2 HB2.out.size)) (fun b h _ => h)) HO.out)
  have HB3 := Hd (HB2.out.trans (b1.mono HB2.out.size))
  have x1 := HX.out.below b1 HX.out.lt
  have hs1 : W.heap.size + 2 ≤ w1.heap.size := by have := b1.size; have := HS2.out; omega
  clear b1
  have X1 := Hd x1
  clear x1
  go_wp2_with fail
  refine HF.out.mono ?_
  rintro e w2 ⟨yA, yn, yc, yq, rfl, h2, b2⟩
  have HB4 := Hd (HB3.out.trans (b2.mono HB3.out.size))
  have X2 := Hd (X1.out.below b2 X1.out.lt)
  have H2 := Hd h2
  have hs2 : W.heap.size + 2 ≤ w2.heap.size := by have := b2.size; omega
  clear h2 b2
  go_wp2_with fail
  refine (AsMy yA yn yc yq w2).mono ?_
  rintro e w3 ⟨a', rfl, ha', hblk, b3⟩
  have HB5 := Hd (HB4.out.trans (b3.mono HB4.out.size))
  have x3 := X2.out.below b3 X2.out.lt
  have z0 := x3.frozen 0
  have z1 := x3.frozen 1
  have y0 := x3.cell 0
  have y1 := x3.cell 1
  simp at y0 y1
  have e0 : (w3.setCell ⟨W.heap.size + 1, 0, none⟩ (.int .i64 6)).cell? ⟨W.heap.size + 1, 0, none⟩ = some (.int .i64 6) := by simpa using (x3.set_ 0 (.int .i64 6)).cell 0
  have e1 : ((w3.setCell ⟨W.heap.size + 1, 0, none⟩ (.int .i64 6)).setCell ⟨W.heap.size + 1, 1, none⟩ (.iface 133 (.pointer (some ⟨a', 0, none⟩)))).cell? ⟨W.heap.size + 1, 1, none⟩ = some (.iface 133 (.pointer (some ⟨a', 0, none⟩))) := by simpa using ((x3.set_ 0 (.int .i64 6)).set_ 1 (.iface 133 (.pointer (some ⟨a', 0, none⟩)))).cell 1
  have hgeo : GeoG w3 (fun b => (ok b ∧ b < W.heap.size) ∨ W.heap.size + 2 ≤ b) [.int .i64 6, .iface 133 (.pointer (some ⟨a', 0, none⟩))] (forceT Q t) := by
    have hr := MyG.keeps _ w3 _ (fun b => (ok b ∧ b < W.heap.size) ∨ W.heap.size + 2 ≤ b) _ _ H2.out (fun b _ hl => b3.block b hl) (fun b hb _ => by rcases hb with h | h; exact .inl h; exact .inr (by omega))
    exact .leaf (.inr (.inr (.inr (.inr (.inr (⟨rfl, rfl, rfl, hr⟩)))))) (.inr (by omega)) hblk
  have HGEO := Hd hgeo
  clear hgeo b3 x3 hblk
  go_wp2
  refine bodyPost_ret (by simp [results, Tryz.results172, go_sem, e0, e1]; try rfl) rfl ?_
  refine ⟨_, _, _, rfl, GeoG.keeps _ _ _ _ _ _ HGEO.out (fun b hb _ => ?_) (fun b hb _ => ?_), ?_⟩
  · have hne : b ≠ W.heap.size + 1 := by rcases hb with h | h <;> omega
    rw [Below.heap_setCell _ _ _ b hne, Below.heap_setCell _ _ _ b hne]
  · rcases hb with h | h
    · exact .inl h.1
    · exact .inr (by omega)
  · exact below_setCell' (below_setCell' HB5.out (Nat.le_succ _) _) (Nat.le_succ _) _

set_option maxRecDepth 100000 in
theorem GeoForce_Gc (Q : Int) (Q0 : 0 ≤ Q) (Q1 : Q ≤ 3) {ok : Nat → Prop} (A : Option Addr) (n c : Nat) (q : Int) {t : Gm} (a : Nat) (W : World) (hb : Blk W a 125 #[.slice A n c, .int .u8 q]) (h : GcG W ok [.slice A n c, .int .u8 q] t) (ho : OkT t) (hF : ∀ s ∈ t.kids, GeoForceAt s) :
    Calls Tryz.prog 172 #[.agg #[.int .i64 0, .iface 127 (.pointer (some ⟨a, 0, none⟩))], .int .u8 Q] W fun e w' => ∃ (q' : Int) (T' a' : Nat), e = .returned (.agg #[.int .i64 q', .iface T' (.pointer (some ⟨a', 0, none⟩))]) ∧ GeoG w' (fun b => ok b ∨ W.heap.size ≤ b) [.int .i64 q', .iface T' (.pointer (some ⟨a', 0, none⟩))] (forceT Q t) ∧ Below W.heap.size W w' := by
  have hb2 : Below W.heap.size W ((W.alloc (.cells #[.int .i64 0, .iface 127 (.pointer (some ⟨a, 0, none⟩))] 68)).alloc (.cells #[.int .i64 0, .nilIface] 68)) := ((Below.refl _ _).alloc (Nat.le_refl _) _).alloc (by simp) _
  have hx := Blk.new (W.alloc (.cells #[.int .i64 0, .iface 127 (.pointer (some ⟨a, 0, none⟩))] 68)) 68 #[.int .i64 0, .nilIface]
  have hsz2 : ((W.alloc (.cells #[.int .i64 0, .iface 127 (.pointer (some ⟨a, 0, none⟩))] 68)).alloc (.cells #[.int .i64 0, .nilIface] 68)).heap.size = W.heap.size + 2 := by simp
  rw [World.size_alloc] at hx
  have HM := Hd (MustGc A n c q a ((W.alloc (.cells #[.int .i64 0, .iface 127 (.pointer (some ⟨a, 0, none⟩))] 68)).alloc (.cells #[.int .i64 0, .nilIface] 68)) (hb.below hb2 hb.lt))
  have HX := Hd hx
  have HB2 := Hd hb2
  have HH := Hd (GcG.keeps _ _ _ (fun b => ok b ∧ b < W.heap.size) _ _ h (fun b _ hl => hb2.block b hl) (fun b h hl => ⟨h, hl⟩))
  have HO := Hd ho
  have HS2 := Hd hsz2
  have HFF := Hd hF
  clear hF
  clear hb2 hx hb h ho hsz2
  go_enter Tryz.func172, Tryz.ntmps172
  go_wp2_with fail
  refine HM.out.mono ?_
  rintro e w1 ⟨rfl, b1⟩
  have HF := Hd (GcForce_G Q Q0 Q1 w1 (GcG.keeps _ _ _ (fun b => ok b ∧ b < W.heap.size) _ _ HH.out (fun b hb _ => b1.block b (Nat.lt_of_lt_of_le hb.2 HB2.out.size)) (fun b h _ => h)) HO.out HFF.out)
  have HB3 := Hd (HB2.out.trans (b1.mono HB2.out.size))
  have x1 := HX.out.below b1 HX.out.lt
  have hs1 : W.heap.size + 2 ≤ w1.heap.size := by have := b1.size; have := HS2.out; omega
  clear b1
  have X1 := Hd x1
  clear x1
  go_wp2_with fail
  refine HF.out.mono ?_
  rintro e w2 ⟨yA, yn, yc, yq, rfl, h2, b2⟩
  have HB4 := Hd (HB3.out.trans (b2.mono HB3.out.size))
  have X2 := Hd (X1.out.below b2 X1.out.lt)
  have H2 := Hd h2
  have hs2 : W.heap.size + 2 ≤ w2.heap.size := by have := b2.size; omega
  clear h2 b2
  go_wp2_with fail
  refine (AsGc yA yn yc yq w2).mono ?_
  rintro e w3 ⟨a', rfl, ha', hblk, b3⟩
  have HB5 := Hd (HB4.out.trans (b3.mono HB4.out.size))
  have x3 := X2.out.below b3 X2.out.lt
  have z0 := x3.frozen 0
  have z1 := x3.frozen 1
  have y0 := x3.cell 0
  have y1 := x3.cell 1
  simp at y0 y1
  have e0 : (w3.setCell ⟨W.heap.size + 1, 0, none⟩ (.int .i64 0)).cell? ⟨W.heap.size + 1, 0, none⟩ = some (.int .i64 0) := by simpa using (x3.set_ 0 (.int .i64 0)).cell 0
  have e1 : ((w3.setCell ⟨W.heap.size + 1, 0, none⟩ (.int .i64 0)).setCell ⟨W.heap.size + 1, 1, none⟩ (.iface 127 (.pointer (some ⟨a', 0, none⟩)))).cell? ⟨W.heap.size + 1, 1, none⟩ = some (.iface 127 (.pointer (some ⟨a', 0, none⟩))) := by simpa using ((x3.set_ 0 (.int .i64 0)).set_ 1 (.iface 127 (.pointer (some ⟨a', 0, none⟩)))).cell 1
  have hgeo : GeoG w3 (fun b => (ok b ∧ b < W.heap.size) ∨ W.heap.size + 2 ≤ b) [.int .i64 0, .iface 127 (.pointer (some ⟨a', 0, none⟩))] (forceT Q t) := by
    have hr := GcG.keeps _ w3 _ (fun b => (ok b ∧ b < W.heap.size) ∨ W.heap.size + 2 ≤ b) _ _ H2.out (fun b _ hl => b3.block b hl) (fun b hb _ => by rcases hb with h | h; exact .inl h; exact .inr (by omega))
    exact GeoG.of_gc hr (.inr (by omega)) hblk
  have HGEO := Hd hgeo
  clear hgeo b3 x3 hblk
  go_wp2
  refine bodyPost_ret (by simp [results, Tryz.results172, go_sem, e0, e1]; try rfl) rfl ?_
  refine ⟨_, _, _, rfl, GeoG.keeps _ _ _ _ _ _ HGEO.out (fun b hb _ => ?_) (fun b hb _ => ?_), ?_⟩
  · have hne : b ≠ W.heap.size + 1 := by rcases hb with h | h <;> omega
    rw [Below.heap_setCell _ _ _ b hne, Below.heap_setCell _ _ _ b hne]
  · rcases hb with h | h
    · exact .inl h.1
    · exact .inr (by omega)
  · exact below_setCell' (below_setCell' HB5.out (Nat.le_succ _) _) (Nat.le_succ _) _

theorem GeoForce_all : ∀ t : Gm, GeoForceAt t
  | t => fun Q Q0 Q1 ok q T a W h ho => by
    generalize hx : [Value.int .i64 q, .iface T (.pointer (some ⟨a, 0, none⟩))] = x at h
    cases h with
    | @leaf _ K ST PT a' cs _ hl ha hb =>
      simp only [List.cons.injEq, Value.int.injEq, Value.iface.injEq, Value.pointer.injEq, Option.some.injEq, Addr.mk.injEq, and_true, true_and] at hx
      obtain ⟨rfl, rfl, rfl⟩ := hx
      rcases hl with ⟨rfl, rfl, rfl, hr⟩ | ⟨rfl, rfl, rfl, hr⟩ | ⟨rfl, rfl, rfl, hr⟩ | ⟨rfl, rfl, rfl, hr⟩ | ⟨rfl, rfl, rfl, hr⟩ | ⟨rfl, rfl, rfl, hr⟩
      · obtain ⟨vx, vy, vz, vm, vq, vf, rfl, -⟩ := hr.shape
        exact GeoForce_Pt Q Q0 Q1 vx vy vz vm vq vf _ W hb hr ho
      · obtain ⟨vq, vA, vn, vc, rfl, -⟩ := hr.shape
        exact GeoForce_Ls Q Q0 Q1 vq vA vn vc _ W hb hr ho
      · obtain ⟨vA, vn, vc, vq, rfl, -⟩ := hr.shape
        exact GeoForce_Pg Q Q0 Q1 vA vn vc vq _ W hb hr ho
      · obtain ⟨vA, vn, vc, vq, rfl, -⟩ := hr.shape
        exact GeoForce_Mp Q Q0 Q1 vA vn vc vq _ W hb hr ho
      · obtain ⟨vA, vn, vc, vq, rfl, -⟩ := hr.shape
        exact GeoForce_Ml Q Q0 Q1 vA vn vc vq _ W hb hr ho
      · obtain ⟨vA, vn, vc, vq, rfl, -⟩ := hr.shape
        exact GeoForce_My Q Q0 Q1 vA vn vc vq _ W hb hr ho
    | @gc _ a' A n c q' ks css ha hb q0 q1 hl hn how h2 h3 h4 h5 =>
      simp only [List.cons.injEq, Value.int.injEq, Value.iface.injEq, Value.pointer.injEq, Option.some.injEq, Addr.mk.injEq, and_true, true_and] at hx
      obtain ⟨rfl, rfl, rfl⟩ := hx
      exact GeoForce_Gc Q Q0 Q1 A n c q' _ W hb ⟨A, n, c, q', ks, rfl, rfl, q0, q1, hl, hn, css, how, h2, h3, h4, h5⟩ ho (fun s hs => GeoForce_all s)
termination_by t => SizeOf.sizeOf t
decreasing_by (have := List.sizeOf_lt_of_mem hs; simp [Gm.kids] at *; omega)
theorem GeoForce_G (Q : Int) (Q0 : 0 ≤ Q) (Q1 : Q ≤ 3) {ok : Nat → Prop} {q : Int} {T a : Nat} {t : Gm} (W : World) (h : GeoG W ok [.int .i64 q, .iface T (.pointer (some ⟨a, 0, none⟩))] t) (ho : OkT t) :
    Calls Tryz.prog 172 #[.agg #[.int .i64 q, .iface T (.pointer (some ⟨a, 0, none⟩))], .int .u8 Q] W fun e w' => ∃ (q' : Int) (T' a' : Nat), e = .returned (.agg #[.int .i64 q', .iface T' (.pointer (some ⟨a', 0, none⟩))]) ∧ GeoG w' (fun b => ok b ∨ W.heap.size ≤ b) [.int .i64 q', .iface T' (.pointer (some ⟨a', 0, none⟩))] (forceT Q t) ∧ Below W.heap.size W w' := GeoForce_all t Q Q0 Q1 W h ho
theorem GeoCT_G {ok : Nat → Prop} {q : Int} {T a : Nat} {t : Gm} (W : World) (h : GeoG W ok [.int .i64 q, .iface T (.pointer (some ⟨a, 0, none⟩))] t) :
    Calls Tryz.prog 40 #[.agg #[.int .i64 q, .iface T (.pointer (some ⟨a, 0, none⟩))]] W fun e w' => e = .returned (.int .u8 t.d) ∧ Below W.heap.size W w' := by
  generalize hx : [Value.int .i64 q, .iface T (.pointer (some ⟨a, 0, none⟩))] = x at h
  cases h with
  | @leaf _ K ST PT a' cs _ hl ha hb =>
    simp only [List.cons.injEq, Value.int.injEq, Value.iface.injEq, Value.pointer.injEq, Option.some.injEq, Addr.mk.injEq, and_true, true_and] at hx
    obtain ⟨rfl, rfl, rfl⟩ := hx
    rcases hl with ⟨rfl, rfl, rfl, hr⟩ | ⟨rfl, rfl, rfl, hr⟩ | ⟨rfl, rfl, rfl, hr⟩ | ⟨rfl, rfl, rfl, hr⟩ | ⟨rfl, rfl, rfl, hr⟩ | ⟨rfl, rfl, rfl, hr⟩
    · obtain ⟨vx, vy, vz, vm, vq, vf, rfl, -⟩ := hr.shape
      exact GeoCT_Pt vx vy vz vm vq vf _ W hb hr
    · obtain ⟨vq, vA, vn, vc, rfl, -⟩ := hr.shape
      exact GeoCT_Ls vq vA vn vc _ W hb hr
    · obtain ⟨vA, vn, vc, vq, rfl, -⟩ := hr.shape
      exact GeoCT_Pg vA vn vc vq _ W hb hr
    · obtain ⟨vA, vn, vc, vq, rfl, -⟩ := hr.shape
      exact GeoCT_Mp vA vn vc vq _ W hb hr
    · obtain ⟨vA, vn, vc, vq, rfl, -⟩ := hr.shape
      exact GeoCT_Ml vA vn vc vq _ W hb hr
    · obtain ⟨vA, vn, vc, vq, rfl, -⟩ := hr.shape
      exact GeoCT_My vA vn vc vq _ W hb hr
  | @gc _ a' A n c q' ks css ha hb q0 q1 hl hn how h2 h3 h4 h5 =>
    simp only [List.cons.injEq, Value.int.injEq, Value.iface.injEq, Value.pointer.injEq, Option.some.injEq, Addr.mk.injEq, and_true, true_and] at hx
    obtain ⟨rfl, rfl, rfl⟩ := hx
    exact GeoCT_Gc A n c q' _ W hb (⟨A, n, c, q', ks, rfl, rfl, q0, q1, hl, hn, css, how, h2, h3, h4, h5⟩ : GcG W ok _ _)

end Go.Proofs.YtofdccmmagcamaaGreatDoor

/- Geometries of any kind, made of plain data. -/
set_option maxHeartbeats 8000000
set_option linter.unusedSimpArgs false
set_option linter.unusedVariables false
namespace Go.Proofs.YtofdccmmagcamaaGreatDoor
open Go.RowKit Go.Proofs.YtofdccmmagcamaaGreatDoorW.PrintLast

attribute [local go_sem] run_store_float

attribute [local go_sem] asPt asLs asPg asMp asMl asMy asGc

set_option maxRecDepth 100000 in
theorem NewGeometryCollection_G {ok : Nat → Prop} {A : Option Addr} {n c : Nat} {ts : List Gm} (W : World) (h : KRow GeoG 68 2 W ok (.slice A n c) ts) (hrl : ts.length = n) (hok : ∀ t ∈ ts, OkT t) (hn : n ≤ 100000) (hn0 : 0 < n) :
    Calls Tryz.prog 133 #[.slice A n c] W fun e w' => ∃ (A' : Option Addr) (n' c' : Nat) (q' : Int), e = .returned (.agg #[.slice A' n' c', .int .u8 q']) ∧ GcG w' (fun b => ok b ∨ W.heap.size ≤ b) [.slice A' n' c', .int .u8 q'] (.mk 0 (ctF ts) [] (ts.map (forceT (ctF ts)))) ∧ Below W.heap.size W w' := by
  have hd : ((n : Int) == 0) = false := by rw [beq_eq_false_iff_ne]; omega
  have H := Hd h
  have HRL := Hd hrl
  have HOK := Hd hok
  clear h hrl hok
  go_enter Tryz.func133, Tryz.ntmps133
  go_wp2_with fail
  have hb3 : Below W.heap.size W (W.alloc (.cells #[.slice none 0 0, .int .u8 0] 125)) := (Below.refl _ _).alloc (Nat.le_refl _) _
  have x3 := Blk.new W 125 #[.slice none 0 0, .int .u8 0]
  have hs3 : W.heap.size + 1 ≤ (W.alloc (.cells #[.slice none 0 0, .int .u8 0] 125)).heap.size := by simp
  generalize W.alloc (.cells #[.slice none 0 0, .int .u8 0] 125) = w3 at *
  have X3 := Hd x3
  have HB3 := Hd hb3
  clear x3 hb3
  go_loopw [3, 13] (fun u i wr => ∃ (k : Nat), k ≤ n ∧ i = .int .i64 k ∧ u = .int .u8 (ctF (ts.take k)) ∧ 0 ≤ ctF (ts.take k) ∧ ctF (ts.take k) ≤ 3 ∧ Blk wr W.heap.size 125 #[.slice none 0 0, .int .u8 0] ∧ Below W.heap.size W wr ∧ W.heap.size + 1 ≤ wr.heap.size) (fun _ i _ => n - (intOf i).toNat)
  case atStart => exact ⟨0, Nat.zero_le _, rfl, rfl, by show (0 : Int) ≤ 3; decide, by show (3 : Int) ≤ 3; decide, X3.out, HB3.out, hs3⟩
  case round =>
    obtain ⟨k, hk, rfl, rfl, t0, t1, x0, hbr, hsr⟩ := hrel
    by_cases hlt : k < n
    · obtain ⟨g, x, s, rfl, hgok, hr, hxl, hcl, hrs, hgl⟩ := row_at HRL.out H.out hlt
      replace hgl := hgl (by decide)
      obtain ⟨rq, rT, ra, rfl, -⟩ := hrs.shape
      obtain ⟨s0, s1⟩ : 0 ≤ s.d ∧ s.d ≤ 3 := (HOK.out s (List.mem_of_getElem? hr)).dr
      have hct : ctF (ts.take (k + 1)) = dand (ctF (ts.take k)) s.d := by
        unfold ctF
        rw [List.take_add_one, hr, Option.toList_some, List.foldl_append]
        rfl
      obtain ⟨v0, v1⟩ := dand_range t0 t1 s0 s1
      have hdu := dand_u8 t0 t1 s0 s1
      have j0 := (hbr.cell (p := ⟨g, k * 2 + 0, none⟩) hgl).trans (hcl 0 _ rfl)
      have j1 := (hbr.cell (p := ⟨g, k * 2 + 1, none⟩) hgl).trans (hcl 1 _ rfl)
      rw [Nat.add_zero] at j0
      have hcall := GeoCT_G (wr.alloc (.cells #[.int .i64 rq, .iface rT (.pointer (some ⟨ra, 0, none⟩))] 68)) (GeoG.keeps _ _ _ (fun b => b < W.heap.size) _ _ hrs (fun b _ hl => (Below.heap_alloc wr _ b (by omega)).trans (hbr.block b hl)) (fun b _ hl => hl))
      generalize ctF (ts.take k) = ct at *
      have HCT := Hd hct
      have HDU := Hd hdu
      have HBR := Hd hbr
      have X0 := Hd x0
      have HCALL := Hd hcall
      clear hct hdu hbr x0 hr hcl hcall hrs
      generalize s.d = sq at *
      go_wp2_with fail
      refine HCALL.out.mono ?_
      rintro e w5 ⟨rfl, h5⟩
      have hb5 : Below wr.heap.size wr w5 := ((Below.refl _ _).alloc (Nat.le_refl _) _).trans (h5.mono (by simp))
      have HB5 := Hd hb5
      clear h5 hb5
      go_wp2
      go_roundw
      case rel =>
        refine ⟨k + 1, by omega, by go_num, by rw [HCT.out, ← HDU.out], by rw [HCT.out]; exact v0, by rw [HCT.out]; exact v1, X0.out.below HB5.out X0.out.lt, HBR.out.trans (HB5.out.mono HBR.out.size), by have := HB5.out.size; omega⟩
      case measure => simp [intOf]; omega
    · obtain rfl : n = k := by omega
      rw [List.take_of_length_le (by rw [HRL.out]; exact Nat.le_refl _)] at t0 t1
      rw [List.take_of_length_le (by rw [HRL.out]; exact Nat.le_refl _)]
      generalize hCT : ctF ts = ct at *
      have HC0 := Hd hCT
      clear hCT
      have HBR := Hd hbr
      have X0 := Hd x0
      clear hbr x0
      obtain ⟨css, r1, r2, r3, r4, r5⟩ := H.out
      rw [HRL.out] at r1
      have hrd : Reads wr W.heap.size 2 A n css.flatten := (Reads.of_own r1).below HBR.out
      have h1c : ∀ u ∈ css.flatten, u.oneCell' = true := one_cells (R := GeoG) (fun w ok x t h => by obtain ⟨rq, rT, ra, rfl, -⟩ := h.shape; simp [Value.oneCell']) r3 r5
      obtain ⟨i0, hi0, hz0, hz1, hz2⟩ := info_parts info_geo
      have HRD := Hd hrd
      have H1C := Hd h1c
      have R5 := Hd r5
      have R3 := Hd r3
      have R4 := Hd r4
      clear hrd h1c r1 r2 r3 r4 r5
      go_wp2_with (at_builtin; refine wpList_append_any _ rfl _ _ _ rfl 0 68 i0 (.agg #[.int .i64 0, .nilIface]) 2 24 Tryz.underlying123 hi0 hz0 hz1 hz2 rfl (by decide) _ 0 [] rfl (World.ownsRow_nil _ _ _ _) W.heap.size A n c css.flatten rfl HRD.out H1C.out (by simp only [maxLen]; omega) (by omega) (Nat.zero_le _) ?_; intro v1 W1 ho hg hp; obtain ⟨c1, g1, rfl, hg1, ho1, hbw, x1⟩ := copied_row ho hg hp HBR.out HBR.out.size X0.out hn0 hsr; have HO := Hd ho1; have X1 := Hd x1; have HBW := Hd hbw; clear ho hg hp hbw x1 ho1)
      have hmid : MidG GeoG 2 W1 (fun b => ((ok b ∧ b < W.heap.size) ∨ W.heap.size + 1 ≤ b) ∧ b ≠ g1) ct ts 0 css :=
        ⟨R3.out, R4.out, fun i x s hx hs => by
          rw [if_neg (by omega)]
          exact GeoG.keeps _ _ _ _ _ _ (R5.out i x s hx hs) (fun b _ hl => HBW.out.block b hl) (fun b hb hl => ⟨.inl ⟨hb.1, hl⟩, by omega⟩)⟩
      have HMID := Hd hmid
      have hsz1 : g1 < W1.heap.size := (HO.out.lt g1 rfl).2
      clear hmid
      go_loopw [26] (fun i wr => ∃ (k : Nat) (cs : List (List Value)), k ≤ n ∧ i = .int .i64 k ∧ Blk wr W.heap.size 125 #[.slice none 0 0, .int .u8 0] ∧ wr.ownsRow 0 68 2 (.slice (some ⟨g1, 0, none⟩) n c1) n cs.flatten ∧ MidG GeoG 2 wr (fun b => ((ok b ∧ b < W.heap.size) ∨ W.heap.size + 1 ≤ b) ∧ b ≠ g1) ct ts k cs ∧ Below W.heap.size W wr ∧ g1 < wr.heap.size) (fun i _ => n - (intOf i).toNat)
      case atStart => exact ⟨0, css, Nat.zero_le _, rfl, X1.out, HO.out, HMID.out, HBW.out, hsz1⟩
      case round =>
        obtain ⟨k, cs, hk, rfl, x0, ow, md, hbr, hsr2⟩ := hrel
        by_cases hlt : k < n
        · have hrk : ts[k]? = some (ts[k]'(by rw [HRL.out]; exact hlt)) := List.getElem?_eq_getElem _
          have hcl : k < cs.length := by rw [md.1, HRL.out]; exact hlt
          have hck : cs[k]? = some (cs[k]'hcl) := List.getElem?_eq_getElem _
          have hsm : (ts[k]'(by rw [HRL.out]; exact hlt)) ∈ ts := List.getElem_mem _
          generalize (ts[k]'(by rw [HRL.out]; exact hlt)) = s at hrk hsm
          generalize (cs[k]'hcl) = x at hck
          have hls := md.2.2 k x s hck hrk
          rw [if_neg (by omega)] at hls
          obtain ⟨rq, rT, ra, rfl, -⟩ := hls.shape
          have ad : ∀ g j : Nat, (⟨g, 0, none⟩ : Addr).add j = ⟨g, j, none⟩ := fun g j => by unfold Addr.add; split <;> simp_all
          have k0 := ow.cells (g := g1) rfl (k * 2 + 0) (.int .i64 rq) (by rw [flat_at md.2.1 hck (by omega)]; rfl)
          have k1 := ow.cells (g := g1) rfl (k * 2 + 1) (.iface rT (.pointer (some ⟨ra, 0, none⟩))) (by rw [flat_at md.2.1 hck (by omega)]; rfl)
          rw [ad] at k0 k1
          rw [Nat.add_zero] at k0
          have hcall := GeoForce_G ct t0 t1 wr hls (HOK.out s hsm)
          have HCALL := Hd hcall
          have OW := Hd ow
          have MD := Hd md
          have X0' := Hd x0
          have HBR2 := Hd hbr
          have HRK := Hd hrk
          clear hcall ow md x0 hbr hls hck hrk hsm
          go_wp2_with fail
          refine HCALL.out.mono ?_
          rintro e w5 ⟨yq, yT, ya, rfl, h5, b5⟩
          have o5 : w5.ownsRow 0 68 2 (.slice (some ⟨g1, 0, none⟩) n c1) n cs.flatten := own_keep OW.out (fun b _ hb => b5.block b hb)
          have y0 := own_frozen o5 (g := g1) rfl (k * 2)
          have y1 := own_frozen o5 (g := g1) rfl (k * 2 + 1)
          have q0 := (b5.cell (p := ⟨g1, k * 2, none⟩) hsr2).trans k0
          have q1 := (b5.cell (p := ⟨g1, k * 2 + 1, none⟩) hsr2).trans k1
          have O5 := Hd o5
          have H5 := Hd h5
          have B5 := Hd b5
          clear o5 h5 b5 k0 k1
          go_wp2
          go_roundw
          case rel =>
            have hheap : ∀ b, b ≠ g1 → ((w5.setCell ⟨g1, k * 2, none⟩ (.int .i64 yq)).setCell ⟨g1, k * 2 + 1, none⟩ (.iface yT (.pointer (some ⟨ya, 0, none⟩)))).heap[b]? = w5.heap[b]? := fun b hb => by
              rw [Below.heap_setCell _ _ _ b hb, Below.heap_setCell _ _ _ b hb]
            have hfl : cs.flatten.length = n * 2 := OW.out.1
            have hs5 := B5.out.size
            refine ⟨k + 1, cs.set k [.int .i64 yq, .iface yT (.pointer (some ⟨ya, 0, none⟩))], by omega, by go_num, ((X0'.out.below B5.out X0'.out.lt).far (by show W.heap.size ≠ g1; omega) _).far (by show W.heap.size ≠ g1; omega) _, ?_, MidG.next (MidG.keep GeoG.keeps MD.out (fun b hb hl => (hheap b hb.2).trans (B5.out.block b hl)) (fun b hb _ => hb)) HRK.out rfl (GeoG.keeps _ _ _ _ _ _ H5.out (fun b hb _ => hheap b ?_) (fun b hb _ => ?_)), below_setCell' (below_setCell' (HBR2.out.trans (B5.out.mono HBR2.out.size)) (by show W.heap.size ≤ g1; omega) _) (by show W.heap.size ≤ g1; omega) _, by simp [World.setCell]; omega⟩
            · rw [flat_set2 MD.out.2.1 hcl]
              exact own_store (own_store O5.out rfl (by rw [hfl]; omega) _) rfl (by rw [List.length_set, hfl]; omega) _
            · rcases hb with h | h
              · exact h.2
              · omega
            · rcases hb with h | h
              · exact h
              · have := HBR2.out.size; exact ⟨.inr (by omega), by omega⟩
          case measure => simp [intOf]; omega
        · obtain rfl : n = k := by omega
          have c0 := x0.cell 0
          have c1' := x0.cell 1
          have z0 := x0.frozen 0
          have z1 := x0.frozen 1
          simp at c0 c1'
          have e0 : (wr.setCell ⟨W.heap.size, 0, none⟩ (.slice (some ⟨g1, 0, none⟩) n c1)).cell? ⟨W.heap.size, 0, none⟩ = some (.slice (some ⟨g1, 0, none⟩) n c1) := by simpa using (x0.set_ 0 (.slice (some ⟨g1, 0, none⟩) n c1)).cell 0
          have e1 : ((wr.setCell ⟨W.heap.size, 0, none⟩ (.slice (some ⟨g1, 0, none⟩) n c1)).setCell ⟨W.heap.size, 1, none⟩ (.int .u8 ct)).cell? ⟨W.heap.size, 1, none⟩ = some (.int .u8 ct) := by simpa using ((x0.set_ 0 (.slice (some ⟨g1, 0, none⟩) n c1)).set_ 1 (.int .u8 ct)).cell 1
          have hrow : KRow GeoG 68 2 wr (fun b => (ok b ∧ b < W.heap.size) ∨ W.heap.size + 1 ≤ b) (.slice (some ⟨g1, 0, none⟩) n c1) (ts.map (forceT ct)) :=
            MidG.row GeoG.keeps md HRL.out ow (fun b hb => hb) (.inr hg1)
          have ROW := Hd hrow
          have HBR2 := Hd hbr
          clear hrow hbr x0 ow md
          go_wp2
          refine bodyPost_ret (by simp [results, Tryz.results133, go_sem, e0, e1]; try rfl) rfl ?_
          rw [HC0.out]
          refine ⟨some ⟨g1, 0, none⟩, n, c1, ct, rfl, ⟨some ⟨g1, 0, none⟩, n, c1, ct, _, rfl, rfl, t0, t1, by rw [List.length_map, HRL.out], hn, KRow.keep GeoG.keeps ROW.out (fun b hb _ => ?_) (fun b hb _ => ?_)⟩, ?_⟩
          · have hne : b ≠ W.heap.size := by rcases hb with h | h <;> omega
            rw [Below.heap_setCell _ _ _ b hne, Below.heap_setCell _ _ _ b hne]
          · rcases hb with h | h
            · exact .inl h.1
            · exact .inr (by omega)
          · exact below_setCell' (below_setCell' HBR2.out (Nat.le_refl _) _) (Nat.le_refl _) _

end Go.Proofs.YtofdccmmagcamaaGreatDoor

/- What New makes of parts of one type of coordinates, and its text. -/
set_option maxHeartbeats 8000000
set_option linter.unusedSimpArgs false
set_option linter.unusedVariables false
namespace Go.Proofs.YtofdccmmagcamaaGreatDoor
open Go.RowKit

/-- All of one type, and no number over. -/
inductive Sd (D : Int) : Gm → Prop
  | mk {k : Int} {ns : List Nat} {ks : List Gm} (hl : ns.length % wd D = 0) (hk : ∀ t ∈ ks, Sd D t) : Sd D (.mk k D ns ks)
theorem forceT_sd {D : Int} (d0 : 0 ≤ D) (d1 : D ≤ 3) {t : Gm} (h : Sd D t) : forceT D t = t := by
  induction h with
  | @mk k ns ks hl hk ih =>
    rw [forceT_mk]
    have e1 : plsNums D (ptsN D ns (ns.length / wd D)) = ns := forceS_same D d0 d1 ns hl
    have e2 : ks.map (forceT D) = ks := by
      conv => rhs; rw [← List.map_id ks]
      exact List.map_congr_left fun t ht => ih t ht
    rw [e1, e2]
theorem dand_self {D : Int} (d0 : 0 ≤ D) (d1 : D ≤ 3) : dand D D = D ∧ dand 3 D = D := by
  rcases (show D = 0 ∨ D = 1 ∨ D = 2 ∨ D = 3 by omega) with rfl | rfl | rfl | rfl <;> decide
theorem fold_same {D : Int} (d0 : 0 ≤ D) (d1 : D ≤ 3) : ∀ (ms : List Gm) (a : Int), (∀ m ∈ ms, m.d = D) → (a = D ∨ (a = 3 ∧ ms ≠ [])) → ms.foldl (fun a m => dand a m.d) a = D
  | [], a, _, h => by
    rcases h with h | ⟨_, h⟩
    · exact h
    · exact absurd rfl h
  | m :: ms, a, hm, h => by
    rw [List.foldl_cons]
    refine fold_same d0 d1 ms _ (fun x hx => hm x (List.mem_cons_of_mem _ hx)) (.inl ?_)
    rw [hm m (List.mem_cons_self ..)]
    rcases h with rfl | ⟨rfl, _⟩
    · exact (dand_self d0 d1).1
    · exact (dand_self d0 d1).2

end Go.Proofs.YtofdccmmagcamaaGreatDoor
