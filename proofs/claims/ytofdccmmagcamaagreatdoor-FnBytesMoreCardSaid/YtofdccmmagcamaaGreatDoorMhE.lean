import Derived.Test.YtofdccmmagcamaaGreatDoorMhD
import Derived.Test.YtofdccmmagcamaaGreatDoorWLast
/- Geometries that a call makes: trees whose blocks answer a test, rows of them under construction, and what New and ForceCoordinatesType make of plain data. -/
set_option maxHeartbeats 8000000
set_option linter.unusedSimpArgs false
set_option linter.unusedVariables false
namespace Go.Proofs.YtofdccmmagcamaaGreatDoor
open Go.RowKit

/-- The cells cs read as the geometry t in world w, in blocks that answer ok. -/
inductive GmOn (w : World) (ok : Nat → Prop) : List Value → Gm → Prop
  | mk {k d : Int} {ns : List Nat} {ks : List Gm} {n m : Nat} {A K : Option Addr} {c c' : Nat} {css : List (List Value)} (en : ns.length = n)
      (hn : 0 < n → ∃ g, A = some ⟨g, 0, none⟩ ∧ ok g ∧ ∀ j, j < n → w.cell? ⟨g, j, none⟩ = some (.float .f64 (ns.getD j 0))) (hb : ∀ b ∈ ns, b < 18446744073709551616)
      (em : ks.length = m) (ec : css.length = m) (el : ∀ x ∈ css, x.length = 4)
      (hk : 0 < m → ∃ g, K = some ⟨g, 0, none⟩ ∧ ok g ∧ ∀ j u, css.flatten[j]? = some u → w.cell? ⟨g, j, none⟩ = some u)
      (hs : ∀ (i : Nat) (x : List Value) (t : Gm), css[i]? = some x → ks[i]? = some t → GmOn w ok x t) :
      GmOn w ok [.int .i64 k, .int .i64 d, .slice A n c, .slice K m c'] (.mk k d ns ks)

/-- A relation of cells to data that holds on where its blocks keep. -/
def Keeps {T : Type} (R : World → (Nat → Prop) → List Value → T → Prop) : Prop :=
  ∀ w w' ok ok' cs t, R w ok cs t → (∀ b, ok b → b < w.heap.size → w'.heap[b]? = w.heap[b]?) → (∀ b, ok b → b < w.heap.size → ok' b) → R w' ok' cs t

theorem cell_lt {w : World} {g j : Nat} {u : Value} (h : w.cell? ⟨g, j, none⟩ = some u) : g < w.heap.size := World.block_lt_of_cell? w _ h

theorem GmOn.keeps : Keeps GmOn := by
  intro w w' ok ok' cs t h hk ho
  induction h with
  | @mk k d ns ks n m A K c c' css en hn hb em ec el hk' hs ih =>
    refine .mk en (fun h0 => ?_) hb em ec el (fun h0 => ?_) ih
    · obtain ⟨g, e, hg, hc⟩ := hn h0
      have hl := cell_lt (hc 0 h0)
      exact ⟨g, e, ho g hg hl, fun j hj => (World.cell?_of_block (hk g hg hl)).trans (hc j hj)⟩
    · obtain ⟨g, e, hg, hc⟩ := hk' h0
      have hl : g < w.heap.size := by
        have hx : css.flatten[0]? ≠ none := by
          rcases css with _ | ⟨x, css⟩
          · simp at ec; omega
          · have := el x (List.mem_cons_self ..)
            rcases x with _ | ⟨u, x⟩
            · simp at this
            · simp
        obtain ⟨u, hu⟩ := Option.ne_none_iff_exists'.1 hx
        exact cell_lt (hc 0 u hu)
      exact ⟨g, e, ho g hg hl, fun j u hu => (World.cell?_of_block (hk g hg hl)).trans (hc j u hu)⟩

/-- A row under construction: the slice v has elements of sz cells that read as ts, in blocks that answer ok; no element lies in the row's own block. -/
def KRow {T : Type} (R : World → (Nat → Prop) → List Value → T → Prop) (e : TypeId) (sz : Nat) (w : World) (ok : Nat → Prop) (v : Value) (ts : List T) : Prop :=
  ∃ css : List (List Value), w.ownsRow 0 e sz v ts.length css.flatten ∧ (∀ b, v.ownBlock = some b → ok b) ∧ css.length = ts.length ∧ (∀ x ∈ css, x.length = sz) ∧ ∀ (i : Nat) (x : List Value) (t : T), css[i]? = some x → ts[i]? = some t → R w (fun b => ok b ∧ v.ownBlock ≠ some b) x t

section
variable {T : Type} {R : World → (Nat → Prop) → List Value → T → Prop} {e : TypeId} {sz : Nat}
theorem KRow.nil (w : World) (ok : Nat → Prop) : KRow R e sz w ok (.slice none 0 0) [] := ⟨[], World.ownsRow_nil _ _ _ _, fun b hb => by simp [Value.ownBlock] at hb, rfl, by simp, by simp⟩

theorem own_keep {w w' : World} {base n : Nat} {v : Value} {xs : List Value} (h : w.ownsRow base e sz v n xs) (hk : ∀ b, v.ownBlock = some b → b < w.heap.size → w'.heap[b]? = w.heap[b]?) : w'.ownsRow base e sz v n xs := by
  refine ⟨h.1, ?_⟩
  rcases h.2 with hn | ⟨g, cap, cur, rfl, hb, hgg, rest⟩
  · exact .inl hn
  · exact .inr ⟨g, cap, cur, rfl, hb, (hk g rfl (Array.getElem?_eq_some_iff.1 hgg).1).trans hgg, rest⟩

theorem KRow.keep (hR : Keeps R) {w w' : World} {ok ok' : Nat → Prop} {v : Value} {ts : List T} (h : KRow R e sz w ok v ts) (hk : ∀ b, ok b → b < w.heap.size → w'.heap[b]? = w.heap[b]?) (ho : ∀ b, ok b → b < w.heap.size → ok' b) : KRow R e sz w' ok' v ts := by
  obtain ⟨css, h1, h2, h3, h4, h5⟩ := h
  refine ⟨css, own_keep h1 (fun b hb hl => hk b (h2 b hb) hl), fun b hb => ho b (h2 b hb) (h1.lt b hb).2, h3, h4, fun i x t hx ht => ?_⟩
  exact hR w w' _ _ x t (h5 i x t hx ht) (fun b hb hl => hk b hb.1 hl) (fun b hb hl => ⟨ho b hb.1 hl, hb.2⟩)

theorem KRow.snoc (hR : Keeps R) {W W1 : World} {ok : Nat → Prop} {v v1 : Value} {ts : List T} {css : List (List Value)} {x : List Value} {t : T} (h2 : ∀ b, v.ownBlock = some b → ok b) (h3 : css.length = ts.length) (h4 : ∀ x ∈ css, x.length = sz) (h5 : ∀ (i : Nat) (x : List Value) (t : T), css[i]? = some x → ts[i]? = some t → R W (fun b => ok b ∧ v.ownBlock ≠ some b) x t)
    (hx : R W (fun b => ok b ∧ v.ownBlock ≠ some b) x t) (hl : x.length = sz) (ho : W1.ownsRow 0 e sz v1 (ts.length + 1) (css.flatten ++ x)) (hg : W.grownBy W1 v.ownBlock) (hp : v1.ownBlock = v.ownBlock ∨ v1.ownBlock = some W.heap.size) (hok : ok W.heap.size) : KRow R e sz W1 ok v1 (ts ++ [t]) := by
  have hk : ∀ y u, R W (fun b => ok b ∧ v.ownBlock ≠ some b) y u → R W1 (fun b => ok b ∧ v1.ownBlock ≠ some b) y u := fun y u hy => by
    refine hR W W1 _ _ y u hy (fun b hb hl => hg.block b hl (fun e => hb.2 e.symm)) (fun b hb hl => ⟨hb.1, ?_⟩)
    rcases hp with e | e <;> rw [e]
    · exact hb.2
    · intro e; injection e with e; omega
  refine ⟨css ++ [x], ?_, ?_, ?_, ?_, ?_⟩
  · rw [List.length_append, List.flatten_append]
    simpa using ho
  · intro b hb
    rcases hp with e | e <;> rw [e] at hb
    · exact h2 b hb
    · injection hb with hb; rw [← hb]; exact hok
  · simp [h3]
  · intro y hy
    rcases List.mem_append.1 hy with hy | hy
    · exact h4 y hy
    · simp at hy; rw [hy]; exact hl
  · intro i y u hy hu
    rcases Nat.lt_trichotomy i ts.length with hi | hi | hi
    · rw [List.getElem?_append_left (by omega)] at hy hu
      exact hk y u (h5 i y u hy hu)
    · subst hi
      rw [List.getElem?_append_right (by omega)] at hy hu
      rw [h3] at hy
      simp at hy hu
      subst hy hu
      exact hk x t hx
    · rw [List.getElem?_eq_none (by simp; omega)] at hu
      cases hu

theorem flat_at {css : List (List Value)} (el : ∀ x ∈ css, x.length = sz) {i : Nat} {x : List Value} (h : css[i]? = some x) {j : Nat} (hj : j < sz) : css.flatten[i * sz + j]? = x[j]? := by
  induction css generalizing i with
  | nil => simp at h
  | cons y css ih =>
    have hy := el y (List.mem_cons_self ..)
    rw [List.flatten_cons]
    rcases i with _ | i
    · simp at h
      subst h
      rw [Nat.zero_mul, Nat.zero_add, List.getElem?_append_left (by omega)]
    · rw [List.getElem?_append_right (by rw [hy, Nat.succ_mul]; omega), hy]
      have e : (i + 1) * sz + j - sz = i * sz + j := by rw [Nat.succ_mul]; omega
      rw [e]
      exact ih (fun x hx => el x (List.mem_cons_of_mem _ hx)) (by simpa using h)
end

section
variable {T : Type} {R : World → (Nat → Prop) → List Value → T → Prop} {e : TypeId} {sz : Nat}
/-- A row behind the append of what a call has made. -/
theorem KRow.pushed (hR : Keeps R) {wr w4 W1 : World} {ok : Nat → Prop} {v v1 : Value} {ts : List T} {css : List (List Value)} {x : List Value} {t : T} {o : Obj} (h2 : ∀ b, v.ownBlock = some b → ok b) (h1 : wr.ownsRow 0 e sz v ts.length css.flatten) (h3 : css.length = ts.length) (h4 : ∀ x ∈ css, x.length = sz)
    (h5 : ∀ (i : Nat) (x : List Value) (t : T), css[i]? = some x → ts[i]? = some t → R wr (fun b => ok b ∧ v.ownBlock ≠ some b) x t) (hb : Below wr.heap.size wr w4) (hx : R w4 (fun b => wr.heap.size ≤ b) x t) (hl : x.length = sz) (hok : ∀ b, wr.heap.size ≤ b → ok b)
    (ho : W1.ownsRow 0 e sz v1 (ts.length + 1) (css.flatten ++ x)) (hg : (w4.alloc o).grownBy W1 v.ownBlock) (hp : v1.ownBlock = v.ownBlock ∨ v1.ownBlock = some (w4.alloc o).heap.size) : KRow R e sz W1 ok v1 (ts ++ [t]) ∧ wr.grownBy W1 v.ownBlock := by
  have hk : ∀ b, b < wr.heap.size → (w4.alloc o).heap[b]? = wr.heap[b]? := fun b hl => (Below.heap_alloc w4 o b (Nat.lt_of_lt_of_le hl hb.size)).trans (hb.block b hl)
  have hsz : wr.heap.size ≤ (w4.alloc o).heap.size := by have := hb.size; simp; omega
  refine ⟨KRow.snoc hR h2 h3 h4 (fun i y u hy hu => hR wr _ _ _ y u (h5 i y u hy hu) (fun b _ hl => hk b hl) (fun b hb _ => hb)) (hR w4 _ _ _ x t hx (fun b _ hl => Below.heap_alloc w4 o b hl) (fun b hb' _ => ⟨hok b hb', fun e => ?_⟩)) hl ho hg hp (hok _ hsz), ?_⟩
  · have := (h1.lt b e).2
    omega
  · exact ⟨hg.os.trans hb.os, hg.tape.trans hb.tape, hg.output.trans hb.output, Nat.le_trans hsz hg.size, fun b hl hne => (hg.block b (Nat.lt_of_lt_of_le hl hsz) hne).trans (hk b hl)⟩
theorem below_grownBy {B : Nat} {w w1 w2 : World} {row : Option Nat} (h : Below B w w1) (hB : B ≤ w1.heap.size) (hg : w1.grownBy w2 row) (hr : ∀ b, row = some b → B ≤ b) : Below B w w2 :=
  h.trans ⟨hg.os, hg.tape, hg.output, hg.size, fun b hb => hg.block b (Nat.lt_of_lt_of_le hb hB) (fun e => by have := hr b e.symm; omega)⟩
end

theorem cells_four {w : World} {g T : Nat} {a0 a1 a2 a3 : Value} (h : Blk w g T #[a0, a1, a2, a3]) (b0 b1 b2 b3 : Value) :
    (w.setCell ⟨g, 0, none⟩ b0).cell? ⟨g, 0, none⟩ = some b0 ∧
    ((w.setCell ⟨g, 0, none⟩ b0).setCell ⟨g, 1, none⟩ b1).cell? ⟨g, 1, none⟩ = some b1 ∧
    (((w.setCell ⟨g, 0, none⟩ b0).setCell ⟨g, 1, none⟩ b1).setCell ⟨g, 2, none⟩ b2).cell? ⟨g, 2, none⟩ = some b2 ∧
    ((((w.setCell ⟨g, 0, none⟩ b0).setCell ⟨g, 1, none⟩ b1).setCell ⟨g, 2, none⟩ b2).setCell ⟨g, 3, none⟩ b3).cell? ⟨g, 3, none⟩ = some b3 := by
  have k0 := h.set_ 0 b0
  have k1 := k0.set_ 1 b1
  have k2 := k1.set_ 2 b2
  have k3 := k2.set_ 3 b3
  refine ⟨?_, ?_, ?_, ?_⟩
  · simpa using k0.cell 0
  · simpa using k1.cell 1
  · simpa using k2.cell 2
  · simpa using k3.cell 3

theorem GmOn.shape {w : World} {ok : Nat → Prop} {x : List Value} {t : Gm} (h : GmOn w ok x t) : ∃ (k d : Int) (A K : Option Addr) (n m c c' : Nat), x = [.int .i64 k, .int .i64 d, .slice A n c, .slice K m c'] := by
  cases h
  exact ⟨_, _, _, _, _, _, _, _, rfl⟩

theorem own_shp {w : World} {b sz n : Nat} {e : TypeId} {v : Value} {xs : List Value} (h : w.ownsRow b e sz v n xs) : ∃ A c, v = .slice A n c ∧ (0 < n → ∃ g, A = some ⟨g, 0, none⟩ ∧ v.ownBlock = some g) := by
  rcases h.2 with ⟨rfl, rfl⟩ | ⟨g, cap, cur, rfl, _⟩
  · exact ⟨_, _, rfl, fun h => absurd h (by omega)⟩
  · exact ⟨_, _, rfl, fun _ => ⟨g, rfl, rfl⟩⟩

/-- A geometry that is made of numbers in a row of its own and of kids in a row of its own. -/
theorem GmOn.made {w : World} {ok : Nat → Prop} {k d : Int} {ns : List Nat} {ks : List Gm} {v u : Value} (hb : ∀ b ∈ ns, b < 18446744073709551616) (hv : w.ownsRow 0 73 1 v ns.length (flV ns)) (hvo : ∀ b, v.ownBlock = some b → ok b) (hu : KRow GmOn 25 4 w ok u ks) :
    GmOn w ok [.int .i64 k, .int .i64 d, v, u] (.mk k d ns ks) := by
  obtain ⟨css, h1, h2, h3, h4, h5⟩ := hu
  obtain ⟨A, c, rfl, hA⟩ := own_shp hv
  obtain ⟨K, c', rfl, hK⟩ := own_shp h1
  have ad : ∀ g j : Nat, (⟨g, 0, none⟩ : Addr).add j = ⟨g, j, none⟩ := fun g j => by unfold Addr.add; split <;> simp_all
  refine .mk rfl (fun h0 => ?_) hb rfl h3 h4 (fun h0 => ?_) (fun i x t hx ht => ?_)
  · obtain ⟨g, e, hg⟩ := hA h0
    refine ⟨g, e, hvo g hg, fun j hj => ?_⟩
    have := hv.cells hg j (.float .f64 (ns.getD j 0)) (by simp [flV, List.getD_eq_getElem?_getD, List.getElem?_eq_getElem hj])
    rwa [ad] at this
  · obtain ⟨g, e, hg⟩ := hK h0
    refine ⟨g, e, h2 g hg, fun j u hu => ?_⟩
    have := h1.cells hg j u hu
    rwa [ad] at this
  · exact GmOn.keeps w w _ _ x t (h5 i x t hx ht) (fun _ _ _ => rfl) (fun b hb _ => hb.1)

/-- What ForceCoordinatesType makes. -/
def forceT (dim : Int) : Gm → Gm
  | .mk k d ns ks => .mk k dim (plsNums dim (ptsN d ns (ns.length / wd d))) (ks.attach.map fun x => forceT dim x.1)
decreasing_by all_goals (have := List.sizeOf_lt_of_mem x.2; simp; omega)
theorem forceT_mk (dim k d : Int) (ns : List Nat) (ks : List Gm) : forceT dim (.mk k d ns ks) = .mk k dim (plsNums dim (ptsN d ns (ns.length / wd d))) (ks.map (forceT dim)) := by
  rw [forceT]
  congr 1
  simp

end Go.Proofs.YtofdccmmagcamaaGreatDoor

/- spec.ForceCoordinatesType: a geometry that a call has made, under another type. -/
set_option maxHeartbeats 8000000
set_option linter.unusedSimpArgs false
set_option linter.unusedVariables false
namespace Go.Proofs.YtofdccmmagcamaaGreatDoor
open Go.RowKit Go.Proofs.YtofdccmmagcamaaGreatDoorW.PrintLast

/-- A geometry with few places and kids, of types 0 to 3. -/
inductive OkT : Gm → Prop
  | mk {k d : Int} {ns : List Nat} {ks : List Gm} (h0 : 0 ≤ d) (h1 : d ≤ 3) (hn : ns.length / wd d ≤ 100000) (hm : ks.length ≤ 100000) (hk : ∀ t ∈ ks, OkT t) : OkT (.mk k d ns ks)

theorem plAt_of_own {w : World} {g c n : Nat} {A : Option Addr} {ps : List Pl} (h : w.ownsRow 0 100 4 (.slice A n c) n (plV ps)) (hA : A = some ⟨g, 0, none⟩) : PlAt w g ps := by
  subst hA
  intro i p hp
  have ad : ∀ g j : Nat, (⟨g, 0, none⟩ : Addr).add j = ⟨g, j, none⟩ := fun g j => by unfold Addr.add; split <;> simp_all
  have e : plV ps = (ps.map fun p => [Value.float .f64 p.1, .float .f64 p.2.1, .float .f64 p.2.2.1, .float .f64 p.2.2.2]).flatten := by simp [plV, List.flatMap]
  have hc := h.cells (g := g) rfl
  rw [e] at hc
  have hx : (ps.map fun p => [Value.float .f64 p.1, .float .f64 p.2.1, .float .f64 p.2.2.1, .float .f64 p.2.2.2])[i]? = some [Value.float .f64 p.1, .float .f64 p.2.1, .float .f64 p.2.2.1, .float .f64 p.2.2.2] := by simp [hp]
  have el : ∀ x ∈ (ps.map fun p => [Value.float .f64 p.1, .float .f64 p.2.1, .float .f64 p.2.2.1, .float .f64 p.2.2.2]), x.length = 4 := by
    intro x hx
    obtain ⟨p, _, rfl⟩ := List.mem_map.1 hx
    rfl
  have k : ∀ j, j < 4 → ∀ u, [Value.float .f64 p.1, .float .f64 p.2.1, .float .f64 p.2.2.1, .float .f64 p.2.2.2][j]? = some u → w.cell? ⟨g, i * 4 + j, none⟩ = some u := fun j hj u hu => by
    have := hc (i * 4 + j) u (by rw [flat_at el hx hj]; exact hu)
    rwa [ad] at this
  exact ⟨k 0 (by omega) _ rfl, k 1 (by omega) _ rfl, k 2 (by omega) _ rfl, k 3 (by omega) _ rfl⟩

theorem kid_cells {w : World} {g : Nat} {css : List (List Value)} {q : Nat} {a b c d : Value} (el : ∀ x ∈ css, x.length = 4) (hk : ∀ j u, css.flatten[j]? = some u → w.cell? ⟨g, j, none⟩ = some u) (hx : css[q]? = some [a, b, c, d]) :
    w.cell? ⟨g, q * 4, none⟩ = some a ∧ w.cell? ⟨g, q * 4 + 1, none⟩ = some b ∧ w.cell? ⟨g, q * 4 + 2, none⟩ = some c ∧ w.cell? ⟨g, q * 4 + 3, none⟩ = some d :=
  ⟨hk _ _ (by have := flat_at el hx (j := 0) (by omega); rw [Nat.add_zero] at this; rw [this]; rfl), hk _ _ (by rw [flat_at el hx (by omega)]; rfl), hk _ _ (by rw [flat_at el hx (by omega)]; rfl), hk _ _ (by rw [flat_at el hx (by omega)]; rfl)⟩

theorem ptN_lt (q : Int) (ns : List Nat) (i : Nat) (h : ∀ b ∈ ns, b < 18446744073709551616) : (ptN q ns i).1 < 18446744073709551616 ∧ (ptN q ns i).2.1 < 18446744073709551616 ∧ (ptN q ns i).2.2.1 < 18446744073709551616 ∧ (ptN q ns i).2.2.2 < 18446744073709551616 := by
  have k : ∀ j, ns.getD j 0 < 18446744073709551616 := fun j => by
    rw [List.getD_eq_getElem?_getD]
    rcases Nat.lt_or_ge j ns.length with hj | hj
    · rw [List.getElem?_eq_getElem hj]; exact h _ (List.getElem_mem hj)
    · rw [List.getElem?_eq_none hj]; decide
  unfold ptN
  refine ⟨k _, k _, ?_, ?_⟩
  · show (if _ then _ else _) < _
    split
    · exact k _
    · decide
  · show (if _ then _ else _) < _
    split
    · exact k _
    · decide
theorem plsNums_lt (dim q : Int) (ns : List Nat) (r : Nat) (h : ∀ b ∈ ns, b < 18446744073709551616) : ∀ b ∈ plsNums dim (ptsN q ns r), b < 18446744073709551616 := by
  intro b hb
  unfold plsNums ptsN at hb
  obtain ⟨p, hp, hb⟩ := List.mem_flatMap.1 hb
  obtain ⟨i, _, rfl⟩ := List.mem_map.1 hp
  obtain ⟨h1, h2, h3, h4⟩ := ptN_lt q ns i h
  unfold plNums at hb
  simp only [List.mem_append, List.mem_cons, List.not_mem_nil, or_false] at hb
  rcases hb with (rfl | rfl) | hb | hb
  · exact h1
  · exact h2
  · split at hb <;> simp at hb; subst hb; exact h3
  · split at hb <;> simp at hb; subst hb; exact h4

theorem info_geom : (Tryz.prog.info? 25).map (fun i => (i.zero, i.size, i.bytes)) = some (some (.agg #[.int .i64 0, .int .i64 0, .slice none 0 0, .slice none 0 0]), 4, 64) := by kernel_rfl

set_option maxRecDepth 100000 in
theorem Force_any (dim : Int) (d0 : 0 ≤ dim) (d1 : dim ≤ 3) {w0 : World} {ok : Nat → Prop} {cs : List Value} {t : Gm} (h : GmOn w0 ok cs t) : OkT t → ∀ W : World, (∀ b, ok b → b < w0.heap.size → W.heap[b]? = w0.heap[b]?) →
    Calls Tryz.prog 35 #[.agg cs.toArray, .int .i64 dim] W fun e w' => ∃ cs' : List Value, e = .returned (.agg cs'.toArray) ∧ GmOn w' (fun b => W.heap.size ≤ b) cs' (forceT dim t) ∧ Below W.heap.size W w' := by
  induction h with
  | @mk k d ns ks n m A K c c' css en hn hb em ec el hk hs ih =>
    intro hok W hW
    cases hok with
    | mk h0 h1 hn' hm hk2 =>
    have HW := Hd hW
    have HN := Hd hn
    have HK := Hd hk
    have HS := Hd hs
    have HI := Hd ih
    have HE := Hd el
    have HK2 := Hd hk2
    have HEN := Hd en
    have HEM := Hd em
    have HEC := Hd ec
    have HB := Hd hb
    clear hW hn hk hs ih el hk2 em ec hb
    have hA : 0 < n → ∃ g, A = some ⟨g, 0, none⟩ ∧ ∀ j, j < n → W.cell? ⟨g, j, none⟩ = some (.float .f64 (ns.getD j 0)) := fun hp => by
      obtain ⟨g, e, hg, hc⟩ := HN.out hp
      exact ⟨g, e, fun j hj => (World.cell?_of_block (HW.out g hg (cell_lt (hc 0 hp)))).trans (hc j hj)⟩
    have hA2 : ∃ g, 0 < n → A = some ⟨g, 0, none⟩ ∧ ∀ j, j < n → W.cell? ⟨g, j, none⟩ = some (.float .f64 (ns.getD j 0)) := by
      by_cases hp : 0 < n
      · obtain ⟨g, e, hc⟩ := hA hp
        exact ⟨g, fun _ => ⟨e, hc⟩⟩
      · exact ⟨0, fun h => absurd h hp⟩
    obtain ⟨gA, hA2⟩ := hA2
    have HA := Hd hA2
    clear hA hA2
    go_enter Tryz.func35, Tryz.ntmps35
    go_wp2_with fail
    refine (Places_any d h0 h1 gA n c A ns _ (fun hp => ?_) (by have := HEN.out; have hw := wd_cases d h0 h1; rcases hw with ⟨_, h⟩ | ⟨_, h⟩ | ⟨_, h⟩ | ⟨_, h⟩ <;> rw [h] at hn' <;> omega)).mono ?_
    · obtain ⟨e, hc⟩ := HA.out hp
      refine ⟨e, fun j hj => ?_⟩
      have hl := cell_lt (hc j hj)
      rw [World.cell?_alloc_lt _ _ _ (by simp; omega), World.cell?_alloc_lt _ _ _ (by simp; omega), World.cell?_alloc_lt _ _ _ (by simp; omega)]
      exact hc j hj
    rintro e w1 ⟨v1, rfl, k1⟩
    obtain ⟨A1, c1, rfl, hv1⟩ := own_shp k1.own
    have hg1 : ∃ g, 0 < n / wd d → A1 = some ⟨g, 0, none⟩ := by
      by_cases hp : 0 < n / wd d
      · obtain ⟨g, e, _⟩ := hv1 hp
        exact ⟨g, fun _ => e⟩
      · exact ⟨0, fun h => absurd h hp⟩
    obtain ⟨g1, hg1⟩ := hg1
    have hpl : PlAt w1 g1 (ptsN d ns (n / wd d)) := by
      intro i p hp
      have hi : i < n / wd d := by
        rcases Nat.lt_or_ge i (n / wd d) with h | h
        · exact h
        · rw [List.getElem?_eq_none (by rw [ptsN_length]; exact h)] at hp; cases hp
      exact plAt_of_own k1.own (hg1 (by omega)) i p hp
    have hlp := ptsN_length d ns (n / wd d)
    have hNums := Nums_any dim (ptsN d ns (n / wd d)) g1 c1 A1 (fun h => hg1 (by rw [hlp] at h; exact h)) w1 hpl (by rw [hlp]; rw [HEN.out] at hn'; omega)
    rw [hlp] at hNums
    have hNB : ∀ b ∈ plsNums dim (ptsN d ns (n / wd d)), b < 18446744073709551616 := plsNums_lt dim d ns _ HB.out
    have hlN := plsNums_len dim (ptsN d ns (n / wd d))
    rw [hlp] at hlN
    have hFT : forceT dim (.mk k d ns ks) = .mk k dim (plsNums dim (ptsN d ns (n / wd d))) (ks.map (forceT dim)) := by rw [forceT_mk, HEN.out]
    generalize plsNums dim (ptsN d ns (n / wd d)) = NS at *
    have hb1 := k1.below0
    have HNU := Hd hNums
    have HNB := Hd hNB
    have HFT := Hd hFT
    have b0 := (((Blk.new W 25 #[.int .i64 k, .int .i64 d, .slice A n c, .slice K m c']).alloc (.cells #[.int .i64 0, .int .i64 0, .slice none 0 0, .slice none 0 0] 25)).alloc (.cells #[.int .i64 k, .int .i64 dim, .slice none 0 0, .slice none 0 0] 25)).below hb1 (by simp only [World.size_alloc]; omega)
    have b1 := ((Blk.new (W.alloc (.cells #[.int .i64 k, .int .i64 d, .slice A n c, .slice K m c'] 25)) 25 #[.int .i64 0, .int .i64 0, .slice none 0 0, .slice none 0 0]).alloc (.cells #[.int .i64 k, .int .i64 dim, .slice none 0 0, .slice none 0 0] 25)).below hb1 (by simp only [World.size_alloc]; omega)
    have b2 := (Blk.new ((W.alloc (.cells #[.int .i64 k, .int .i64 d, .slice A n c, .slice K m c'] 25)).alloc (.cells #[.int .i64 0, .int .i64 0, .slice none 0 0, .slice none 0 0] 25)) 25 #[.int .i64 k, .int .i64 dim, .slice none 0 0, .slice none 0 0]).below hb1 (by simp only [World.size_alloc]; omega)
    have hbw : Below W.heap.size W w1 := ((((Below.refl W.heap.size W).alloc (Nat.le_refl _) _).alloc (by simp) _).alloc (by simp; omega) _).trans (hb1.mono (by simp; omega))
    have hsz : W.heap.size + 3 ≤ w1.heap.size := by have := hb1.size; simpa using this
    rw [World.size_alloc, World.size_alloc] at b2
    rw [World.size_alloc] at b1
    clear hNums hNB hFT hlp hg1 hpl hv1 k1 hb1
    go_wp2_with fail
    refine HNU.out.mono ?_
    rintro e w2 ⟨v2, rfl, k2⟩
    have hb2 := k2.below0
    have c0 := b0.below hb2 (by omega)
    have c1 := b1.below hb2 (by omega)
    have c2 := b2.below hb2 (by omega)
    have hbw2 := hbw.trans (hb2.mono (by omega))
    have hsz2 : W.heap.size + 3 ≤ w2.heap.size := by have := hb2.size; omega
    have hv2 : ∀ b, v2.ownBlock = some b → W.heap.size + 3 ≤ b := fun b hb => by
      rcases k2.place with h | ⟨g, h, hl⟩
      · rw [h] at hb; cases hb
      · rw [h] at hb; injection hb with hb; omega
    have o2 := k2.own
    rw [flV_length] at o2
    obtain ⟨A2, e2, rfl, -⟩ := own_shp o2
    clear hb2 hbw hsz k2 b0 b1 b2
    have r2 := c2.cell 2
    have z2 := c2.frozen 2
    have r3 := c0.cell 3
    simp at r2 r3
    have C0 := Hd c0
    have C1 := Hd c1
    have C2 := Hd c2
    have HBW := Hd hbw2
    have HV2 := Hd hv2
    have HO2 := Hd o2
    clear c0 c1 c2 hbw2 hv2 o2
    go_wp2_with fail
    have hb3 := below_setCell' HBW.out (p := ⟨W.heap.size + 1 + 1, 2, none⟩) (by show W.heap.size ≤ W.heap.size + 1 + 1; omega) (.slice A2 NS.length e2)
    have c0 := C0.out.far (p := ⟨W.heap.size + 1 + 1, 2, none⟩) (by show W.heap.size ≠ W.heap.size + 1 + 1; omega) (.slice A2 NS.length e2)
    have c1' := C1.out.far (p := ⟨W.heap.size + 1 + 1, 2, none⟩) (by show W.heap.size + 1 ≠ W.heap.size + 1 + 1; omega) (.slice A2 NS.length e2)
    have c2 : Blk (w2.setCell ⟨W.heap.size + 1 + 1, 2, none⟩ (.slice A2 NS.length e2)) (W.heap.size + 1 + 1) 25 #[.int .i64 k, .int .i64 dim, .slice A2 NS.length e2, .slice none 0 0] := C2.out.set_ 2 (.slice A2 NS.length e2)
    have o3 : (w2.setCell ⟨W.heap.size + 1 + 1, 2, none⟩ (.slice A2 NS.length e2)).ownsRow 0 73 1 (.slice A2 NS.length e2) NS.length (flV NS) := own_keep HO2.out (fun b hb _ => Below.heap_setCell _ _ _ b (by have := HV2.out b hb; show b ≠ W.heap.size + 1 + 1; omega))
    have hsz3 : W.heap.size + 3 ≤ (w2.setCell ⟨W.heap.size + 1 + 1, 2, none⟩ (.slice A2 NS.length e2)).heap.size := by simpa [World.setCell] using hsz2
    generalize w2.setCell ⟨W.heap.size + 1 + 1, 2, none⟩ (.slice A2 NS.length e2) = w3 at *
    have D0 := Hd c0
    have D1 := Hd c1'
    have D2 := Hd c2
    have HB3 := Hd hb3
    have HO3 := Hd o3
    clear c0 c1' c2 hb3 o3 r2 r3 z2 C0 C1 C2 HBW HO2
    generalize hNN : NS.length = N at *
    have HNN := Hd hNN
    clear hNN
    go_loopw [23] (fun i wr => ∃ (q : Nat) (KV : Value), q ≤ m ∧ i = .int .i64 q ∧ Blk wr (W.heap.size + 1) 25 #[.int .i64 0, .int .i64 0, .slice none 0 0, .slice none 0 0] ∧ Blk wr (W.heap.size + 1 + 1) 25 #[.int .i64 k, .int .i64 dim, .slice A2 N e2, KV] ∧
      wr.ownsRow 0 73 1 (.slice A2 N e2) N (flV NS) ∧ KRow GmOn 25 4 wr (fun b => W.heap.size + 3 ≤ b ∧ (Value.slice A2 N e2).ownBlock ≠ some b) KV ((ks.take q).map (forceT dim)) ∧ Below W.heap.size W wr ∧ W.heap.size + 3 ≤ wr.heap.size) (fun i _ => m - (intOf i).toNat)
    case atStart => exact ⟨0, .slice none 0 0, Nat.zero_le _, rfl, D1.out, D2.out, HO3.out, KRow.nil _ _, HB3.out, hsz3⟩
    case round =>
      obtain ⟨q, KV, hq, rfl, x1, x2, o4, kr, hbr, hsr⟩ := hrel
      by_cases hlt : q < m
      · have hkq : ks[q]? = some (ks[q]'(by rw [HEM.out]; exact hlt)) := List.getElem?_eq_getElem _
        have hcq : css[q]? = some (css[q]'(by rw [HEC.out]; exact hlt)) := List.getElem?_eq_getElem _
        have hkm : (ks[q]'(by rw [HEM.out]; exact hlt)) ∈ ks := List.getElem_mem _
        generalize (ks[q]'(by rw [HEM.out]; exact hlt)) = t at hkq hkm
        generalize (css[q]'(by rw [HEC.out]; exact hlt)) = x at hcq
        have hx := HS.out q x t hcq hkq
        obtain ⟨xk, xd, xA, xK, xn, xm, xc, xc', rfl⟩ := hx.shape
        obtain ⟨gK, rfl, hgK, hcK⟩ := HK.out (by omega)
        have hgl : gK < w0.heap.size := by
          have := flat_at HE.out hcq (j := 0) (by omega)
          exact cell_lt (hcK _ _ this)
        have hgW : gK < W.heap.size := by
          have h1 := HW.out gK hgK hgl
          rcases Nat.lt_or_ge gK W.heap.size with h | h
          · exact h
          · rw [Array.getElem?_eq_none h, Array.getElem?_eq_getElem hgl] at h1; cases h1
        have hck : ∀ j u, css.flatten[j]? = some u → wr.cell? ⟨gK, j, none⟩ = some u := fun j u hu =>
          (World.cell?_of_block ((hbr.block gK hgW).trans (HW.out gK hgK hgl))).trans (hcK j u hu)
        obtain ⟨d0', d1', d2', d3'⟩ := kid_cells HE.out hck hcq
        have hcall := HI.out q _ t hcq hkq (HK2.out t hkm)
        have HC := Hd hcall
        have HKQ := Hd hkq
        have X1 := Hd x1
        have X2 := Hd x2
        have O4 := Hd o4
        have KR := Hd kr
        have HBR := Hd hbr
        have r3 := x2.cell 3
        simp at r3
        clear hcall hkq hcq hkm hx hcK hck x1 x2 o4 kr hbr
        go_wp2_with fail
        have hwk : ∀ b, ok b → b < w0.heap.size → b < W.heap.size := fun b hb hl => by
          have h1 := HW.out b hb hl
          rcases Nat.lt_or_ge b W.heap.size with h | h
          · exact h
          · rw [Array.getElem?_eq_none h, Array.getElem?_eq_getElem hl] at h1; cases h1
        have HWK := Hd hwk
        clear hwk
        obtain ⟨css2, r1, r2, r3', r4, r5⟩ := KR.out
        have hln : ((ks.take q).map (forceT dim)).length = q := by rw [List.length_map, List.length_take, HEM.out]; omega
        obtain ⟨i0, hi0, hz0, hz1, hz2⟩ := info_parts info_geom
        have hem := HEM.out
        have R1 := Hd r1
        have R2 := Hd r2
        have R3 := Hd r3'
        have R4 := Hd r4
        have R5 := Hd r5
        have XA0 := Hd (Blk.drew (X2.out.alloc (.cells #[.int .i64 xk, .int .i64 xd, .slice xA xn xc, .slice xK xm xc'] 25)))
        have XB0 := Hd (Blk.drew (Blk.new wr 25 #[.int .i64 xk, .int .i64 xd, .slice xA xn xc, .slice xK xm xc']))
        have HAG : Hid (∀ b, ok b → b < w0.heap.size → (World.drew (wr.alloc (.cells #[.int .i64 xk, .int .i64 xd, .slice xA xn xc, .slice xK xm xc'] 25))).heap[b]? = w0.heap[b]?) :=
          Hd fun b hb hl => (Below.heap_alloc _ _ b (Nat.lt_of_lt_of_le (HWK.out b hb hl) HBR.out.size)).trans ((HBR.out.block b (HWK.out b hb hl)).trans (HW.out b hb hl))
        have HW4 : Hid (∀ w4, Below (World.drew (wr.alloc (.cells #[.int .i64 xk, .int .i64 xd, .slice xA xn xc, .slice xK xm xc'] 25))).heap.size (World.drew (wr.alloc (.cells #[.int .i64 xk, .int .i64 xd, .slice xA xn xc, .slice xK xm xc'] 25))) w4 → ∀ b, b < wr.heap.size → w4.heap[b]? = wr.heap[b]?) :=
          Hd fun w4 b4 b hb => (b4.block b (by show b < (wr.alloc _).heap.size; rw [World.size_alloc]; omega)).trans (Below.heap_alloc wr _ b hb)
        have HS4 : Hid (∀ {w4}, Below (World.drew (wr.alloc (.cells #[.int .i64 xk, .int .i64 xd, .slice xA xn xc, .slice xK xm xc'] 25))).heap.size (World.drew (wr.alloc (.cells #[.int .i64 xk, .int .i64 xd, .slice xA xn xc, .slice xK xm xc'] 25))) w4 → wr.heap.size + 1 ≤ w4.heap.size) :=
          Hd fun b4 => by have := b4.size; rwa [show (World.drew (wr.alloc (.cells #[.int .i64 xk, .int .i64 xd, .slice xA xn xc, .slice xK xm xc'] 25))).heap.size = wr.heap.size + 1 from World.size_alloc _ _] at this
        have HB4 : Hid (∀ w4, Below (World.drew (wr.alloc (.cells #[.int .i64 xk, .int .i64 xd, .slice xA xn xc, .slice xK xm xc'] 25))).heap.size (World.drew (wr.alloc (.cells #[.int .i64 xk, .int .i64 xd, .slice xA xn xc, .slice xK xm xc'] 25))) w4 → Below wr.heap.size wr w4) :=
          Hd fun w4 b4 => (Below.drew ((Below.refl wr.heap.size wr).alloc (Nat.le_refl _) _)).trans (b4.mono (by show wr.heap.size ≤ (wr.alloc _).heap.size; rw [World.size_alloc]; omega))
        have HSZ : Hid (wr.heap.size + 1 ≤ (World.drew (wr.alloc (.cells #[.int .i64 xk, .int .i64 xd, .slice xA xn xc, .slice xK xm xc'] 25))).heap.size) := Hd (Nat.le_of_eq (World.size_alloc _ _).symm)
        have HOK : Hid (∀ b, wr.heap.size ≤ b → W.heap.size + 3 ≤ b ∧ (Value.slice A2 N e2).ownBlock ≠ some b) := Hd fun b hb => ⟨by omega, fun e => by have := (O4.out.lt b e).2; omega⟩
        have KVN : Hid (some (W.heap.size + 1 + 1) ≠ KV.ownBlock) := Hd fun e => by have := (R2.out _ e.symm).1; omega
        clear r1 r2 r3' r4 r5 r3 d0' d1' d2' d3'
        refine start_ (n := 9) (S := fun w' => w'.cell? ⟨W.heap.size + 1 + 1, 3, none⟩ = some KV ∧ w'.cell? ⟨wr.heap.size, 0, none⟩ = some (.int .i64 xk) ∧ w'.cell? ⟨wr.heap.size, 1, none⟩ = some (.int .i64 xd) ∧ w'.cell? ⟨wr.heap.size, 2, none⟩ = some (.slice xA xn xc) ∧ w'.cell? ⟨wr.heap.size, 3, none⟩ = some (.slice xK xm xc')) (ds := [6, 8]) #[false, false, false, false, false, false, false, false, false] (by kernel_rfl) rfl rfl ⟨(XA0.out.cell 3).trans rfl, (XB0.out.cell 0).trans rfl, (XB0.out.cell 1).trans rfl, (XB0.out.cell 2).trans rfl, (XB0.out.cell 3).trans rfl⟩ (fun hHeld => ?_)
        refine pure_ (i := 0) (N := some 27) (v := ?_) (a' := ?_) #[true, false, false, false, false, false, false, false, false] rfl rfl (by kernel_rfl) (fun _ _ _ h => h) (Or.inl ⟨by rfl, ?_⟩) ?_ ?_
        rotate_left; (· intro w'; go_simp; with_reducible rfl); rotate_left; (· simp only [Act.put, sA, sB, sC]; rfl)
        refine pure_ (i := 3) (N := some 30) (v := ?_) (a' := ?_) #[true, false, false, true, false, false, false, false, false] rfl rfl (by kernel_rfl) (fun _ _ _ h => h) (Or.inl ⟨by rfl, ?_⟩) ?_ ?_
        rotate_left; (· intro w'; go_simp; with_reducible rfl); rotate_left; (· simp only [Act.put, sA, sB, sC]; rfl)
        refine take_ (i := 1) (N := some 28) (v := ?_) (a' := ?_) #[true, true, false, true, false, false, false, false, false] rfl rfl (by kernel_rfl) (fun _ _ _ h => h) (Or.inl ⟨by rfl, ?_⟩) hHeld ?_ ?_
        rotate_left; (· rintro w' ⟨s0, s1, s2, s3, s4⟩; go_simp; with_reducible rfl); rotate_left; (· simp only [Act.put, sA, sB, sC]; rfl)
        refine take_ (i := 2) (N := some 29) (v := ?_) (a' := ?_) #[true, true, true, true, false, false, false, false, false] rfl rfl (by kernel_rfl) (fun _ _ _ h => h) (Or.inl ⟨by rfl, ?_⟩) hHeld ?_ ?_
        rotate_left; (· rintro w' ⟨s0, s1, s2, s3, s4⟩; go_simp; with_reducible rfl); rotate_left; (· simp only [Act.put, sA, sB, sC]; rfl)
        refine one_ (i := 4) (N := some 31) #[true, true, true, true, true, false, false, false, false] rfl rfl (by kernel_rfl) (by decide) (fun K hK => ?_)
        refine goes_ Tryz.func35 (by kernel_rfl) rfl #[.agg #[.int .i64 xk, .int .i64 xd, .slice xA xn xc, .slice xK xm xc'], .int .i64 dim] (by rfl) rfl rfl (by simp only [List.map_toArray, List.map_cons, List.map_nil]; rfl) ?_
        with_reducible refine (HC.out _ HAG.out).mono ?_
        rintro e w4 ⟨y, rfl, g4, b4⟩
        refine ⟨_, rfl, ?_⟩
        obtain ⟨yk, yd, yA, yK, yn, ym, yc, yc', rfl⟩ := g4.shape
        have G4 := Hd g4
        have B4 := Hd b4
        have XA1 := Hd (XA0.out.below b4 XA0.out.lt)
        have XB1 := Hd (XB0.out.below b4 XB0.out.lt)
        clear g4 b4
        refine hK.out _ _ ⟨(XA1.out.cell 3).trans rfl, (XB1.out.cell 0).trans rfl, (XB1.out.cell 1).trans rfl, (XB1.out.cell 2).trans rfl, (XB1.out.cell 3).trans rfl⟩ (fun hHeld => ?_)
        clear hK K
        refine norm_ (a' := ?_) ?_ ?_
        rotate_left
        · show Act.put _ (some 31) _ = _
          simp only [Act.put, sA, sB, sC]
          rfl
        refine one_ (i := 5) (N := some 32) #[true, true, true, true, true, true, false, false, false] rfl rfl (by kernel_rfl) (by decide) (fun K hK => ?_)
        refine value_ (w1 := ?_) (v := ?_) (by rfl) rfl ?_ ?_
        rotate_left 2
        · go_simp
          constructor
          · rfl
          · rfl
        have XA2 := Hd (XA1.out.alloc (.cells #[.int .i64 yk, .int .i64 yd, .slice yA yn yc, .slice yK ym yc'] 25))
        have XB2 := Hd (XB1.out.alloc (.cells #[.int .i64 yk, .int .i64 yd, .slice yA yn yc, .slice yK ym yc'] 25))
        refine hK.out _ _ ⟨(XA2.out.cell 3).trans rfl, (XB2.out.cell 0).trans rfl, (XB2.out.cell 1).trans rfl, (XB2.out.cell 2).trans rfl, (XB2.out.cell 3).trans rfl⟩ (fun hHeld => ?_)
        clear hK K
        refine norm_ (a' := ?_) ?_ ?_
        rotate_left
        · show Act.put _ (some 32) _ = _
          simp only [Act.put, sA, sB, sC]
          rfl
        refine last_ (i := 6) (N := some 33) #[true, true, true, true, true, true, true, false, false] rfl rfl (by kernel_rfl) (by decide) (fun K hK => ?_)
        refine step_append_any _ rfl _ _ _ rfl 0 25 i0 (.agg #[.int .i64 0, .int .i64 0, .slice none 0 0, .slice none 0 0]) 4 64 Tryz.underlying23 hi0 hz0 hz1 hz2 rfl (by decide) _ ((ks.take q).map (forceT dim)).length css2.flatten rfl (own_keep R1.out (fun b _ hb => (Below.heap_alloc w4 _ b (Nat.lt_of_lt_of_le hb (Nat.le_of_succ_le (HS4.out B4.out)))).trans (HW4.out w4 B4.out b hb))) _ _ 1 _ [.int .i64 yk, .int .i64 yd, .slice yA yn yc, .slice yK ym yc'] rfl (by exact reads_new4 rfl) (by simp [Value.oneCell']) (by simp only [maxLen]; omega) (by omega) (Nat.zero_le _) ?_
        intro v1 W1 ho hg hp
        obtain ⟨kr1, hg1⟩ := KRow.pushed GmOn.keeps R2.out R1.out R3.out R4.out R5.out (HB4.out w4 B4.out) (GmOn.keeps _ _ _ _ _ _ G4.out (fun _ _ _ => rfl) (fun b hb _ => Nat.le_of_succ_le (Nat.le_trans HSZ.out hb))) rfl HOK.out ho hg hp
        obtain ⟨Av, cv, rfl, -⟩ := own_shp ho
        have KR1 := Hd kr1
        have HG1 := Hd hg1
        clear ho hg hp kr1 hg1
        refine hK.out _ _ ?_
        clear hK K
        refine norm_ (a' := ?_) ?_ ?_
        rotate_left
        · show Act.put _ (some 33) _ = _
          simp only [Act.put, sA, sB, sC]
          rfl
        refine pure_ (i := 7) (N := some 34) (v := ?_) (a' := ?_) #[true, true, true, true, true, true, true, true, false] rfl rfl (by kernel_rfl) (fun _ _ _ h => h) (Or.inl ⟨by rfl, ?_⟩) ?_ ?_
        rotate_left; (· intro w'; go_simp; with_reducible rfl); rotate_left; (· simp only [Act.put, sA, sB, sC]; rfl)
        refine last_ (i := 8) (N := none) #[true, true, true, true, true, true, true, true, true] rfl rfl (by kernel_rfl) (by decide) (fun K hK => ?_)
        have z3 : W1.frozen? ⟨W.heap.size + 1 + 1, 3, none⟩ = false := (X2.out.grown HG1.out KVN.out).frozen 3
        have z4 : W1.cell? ⟨W.heap.size + 1 + 1, 3, none⟩ = some KV := ((X2.out.grown HG1.out KVN.out).cell 3).trans rfl
        refine skip_ (w1 := ?_) (by rfl) rfl ?_ ?_
        rotate_left
        · go_simp
          rfl
        refine hK.out _ _ ?_
        clear hK K
        refine done_ (by kernel_rfl) ?_
        go_wp2
        go_roundw
        case rel =>
          have hkq2 := List.take_add_one (i := q) (l := ks)
          rw [HKQ.out, Option.toList_some] at hkq2
          have hkr : ∀ b, KV.ownBlock = some b → W.heap.size + 3 ≤ b := fun b hb => (R2.out b hb).1
          have e1 := (Blk.grown X1.out HG1.out (fun e => by have := hkr _ e.symm; omega)).far (p := ⟨W.heap.size + 1 + 1, 3, none⟩) (by show W.heap.size + 1 ≠ W.heap.size + 1 + 1; omega) (.slice Av (q + 1) cv)
          have e2 := (Blk.grown X2.out HG1.out KVN.out).set_ 3 (.slice Av (q + 1) cv)
          refine ⟨q + 1, .slice Av (q + 1) cv, by omega, by go_num, e1, e2, ?_, ?_, ?_, ?_⟩
          · exact own_keep O4.out (fun b hb hl => (Below.heap_setCell W1 _ _ b (by have := HV2.out b hb; show b ≠ W.heap.size + 1 + 1; omega)).trans (HG1.out.block b hl (fun e => (R2.out b e.symm).2 hb)))
          · rw [hkq2, List.map_append]
            have k1 := KR1.out
            rw [hln] at k1
            exact KRow.keep GmOn.keeps k1 (fun b hb _ => Below.heap_setCell W1 _ _ b (by show b ≠ W.heap.size + 1 + 1; have := hb.1; omega)) (fun b hb _ => hb)
          · exact below_setCell' (below_grownBy HBR.out HBR.out.size HG1.out (fun b hb => by have := hkr b hb; omega)) (by show W.heap.size ≤ W.heap.size + 1 + 1; omega) _
          · have := HG1.out.size
            show _ ≤ (W1.setCell _ _).heap.size
            simp [World.setCell]
            omega
        case measure => simp [intOf]; omega
      · obtain rfl : m = q := by omega
        rw [List.take_of_length_le (by rw [HEM.out]; exact Nat.le_refl _)] at kr
        have hgm := GmOn.made (k := k) (d := dim) (ns := NS) (ok := fun b => W.heap.size + 3 ≤ b) HNB.out (by rw [HNN.out]; exact o4) HV2.out (kr.keep GmOn.keeps (fun _ _ _ => rfl) (fun b hb _ => hb.1))
        rw [← HFT.out] at hgm
        obtain ⟨css2, kro, -⟩ := kr
        obtain ⟨Av, cv, rfl, -⟩ := own_shp kro
        rw [List.length_map, HEM.out] at hgm
        rw [List.length_map, HEM.out] at x2
        have HGM := Hd hgm
        have HBR := Hd hbr
        obtain ⟨t0, t1, t2, t3⟩ := cells_four x1 (.int .i64 k) (.int .i64 dim) (.slice A2 N e2) (.slice Av m cv)
        have r0 := x2.cell 0
        have r1 := x2.cell 1
        have r2 := x2.cell 2
        have r3 := x2.cell 3
        have s0 := x1.cell 0
        have s1 := x1.cell 1
        have s2 := x1.cell 2
        have s3 := x1.cell 3
        have y0 := x1.frozen 0
        have y1 := x1.frozen 1
        have y2 := x1.frozen 2
        have y3 := x1.frozen 3
        simp at r0 r1 r2 r3 s0 s1 s2 s3
        clear hgm hbr x1 x2 o4 kro
        go_wp2
        refine bodyPost_ret (by simp [results, Tryz.results35, go_sem, t0, t1, t2, t3]; try rfl) rfl ?_
        have hs : ∀ b, W.heap.size + 3 ≤ b → ((((wr.setCell ⟨W.heap.size + 1, 0, none⟩ (.int .i64 k)).setCell ⟨W.heap.size + 1, 1, none⟩ (.int .i64 dim)).setCell ⟨W.heap.size + 1, 2, none⟩ (.slice A2 N e2)).setCell ⟨W.heap.size + 1, 3, none⟩ (.slice Av m cv)).heap[b]? = wr.heap[b]? := fun b hb => by
          rw [Below.heap_setCell _ _ _ b (by show b ≠ W.heap.size + 1; omega), Below.heap_setCell _ _ _ b (by show b ≠ W.heap.size + 1; omega), Below.heap_setCell _ _ _ b (by show b ≠ W.heap.size + 1; omega), Below.heap_setCell _ _ _ b (by show b ≠ W.heap.size + 1; omega)]
        refine ⟨[.int .i64 k, .int .i64 dim, .slice A2 N e2, .slice Av m cv], rfl, GmOn.keeps _ _ _ _ _ _ HGM.out (fun b hb _ => hs b hb) (fun b hb _ => by omega), ?_⟩
        exact below_setCell' (below_setCell' (below_setCell' (below_setCell' HBR.out (Nat.le_succ _) _) (Nat.le_succ _) _) (Nat.le_succ _) _) (Nat.le_succ _) _

end Go.Proofs.YtofdccmmagcamaaGreatDoor
