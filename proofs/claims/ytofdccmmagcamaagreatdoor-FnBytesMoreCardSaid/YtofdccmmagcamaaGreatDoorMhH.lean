import Derived.Test.YtofdccmmagcamaaGreatDoorMhG
import Derived.Test.YtofdccmmagcamaaGreatDoorMhF
/- The package's geometries as trees: line strings, and geometries that hold a row of parts. -/
set_option maxHeartbeats 8000000
set_option linter.unusedSimpArgs false
set_option linter.unusedVariables false
namespace Go.Proofs.YtofdccmmagcamaaGreatDoor
open Go.RowKit

attribute [local go_sem] run_store_float

/-- The cells cs read as the line string t. -/
def LsG (w : World) (ok : Nat → Prop) (cs : List Value) (t : Gm) : Prop := ∃ (q : Int) (ns : List Nat), t = .mk 2 q ns [] ∧ LsOn w ok cs (q, ns)
theorem LsG.keeps : Keeps LsG := by
  rintro w w' ok ok' cs t ⟨q, ns, rfl, h⟩ hk ho
  exact ⟨q, ns, rfl, LsOn.keeps _ _ _ _ _ _ h hk ho⟩
theorem LsG.shape {w : World} {ok : Nat → Prop} {x : List Value} {t : Gm} (h : LsG w ok x t) : ∃ (q : Int) (A : Option Addr) (n c : Nat), x = [.int .u8 q, .slice A n c] ∧ t.d = q ∧ 0 ≤ q ∧ q ≤ 3 := by
  obtain ⟨q, ns, rfl, A, n, c, rfl, h0, h1, -⟩ := h
  exact ⟨q, A, n, c, rfl, rfl, h0, h1⟩

set_option maxRecDepth 100000 in
theorem SeqCType_any (q : Int) (A : Option Addr) (n c : Nat) (w : World) : Calls Tryz.prog 141 #[.agg #[.int .u8 q, .slice A n c]] w fun e w' => e = .returned (.int .u8 q) ∧ Below w.heap.size w w' := by
  go_enter Tryz.func141, Tryz.ntmps141
  go_wp2
  go_returns
  exact ⟨rfl, by go_grown⟩
set_option maxRecDepth 100000 in
theorem LsCT (q : Int) (A : Option Addr) (n c : Nat) (w : World) : Calls Tryz.prog 95 #[.agg #[.int .u8 q, .slice A n c]] w fun e w' => e = .returned (.int .u8 q) ∧ Below w.heap.size w w' := by
  go_enter Tryz.func95, Tryz.ntmps95
  go_wp2_with fail
  refine (SeqCType_any q A n c _).mono ?_
  rintro e w1 ⟨rfl, h1⟩
  go_wp2
  go_ret
  exact ⟨rfl, ((Below.refl _ _).alloc (Nat.le_refl _) _).trans (h1.mono (by simp))⟩

theorem LsForce_G (Q : Int) (Q0 : 0 ≤ Q) (Q1 : Q ≤ 3) {ok : Nat → Prop} {q : Int} {A : Option Addr} {n c : Nat} {t : Gm} (W : World) (h : LsG W ok [.int .u8 q, .slice A n c] t) (ho : OkT t) :
    Calls Tryz.prog 118 #[.agg #[.int .u8 q, .slice A n c], .int .u8 Q] W fun e w' => ∃ (q' : Int) (A' : Option Addr) (n' c' : Nat), e = .returned (.agg #[.int .u8 q', .slice A' n' c']) ∧ LsG w' (fun b => ok b ∨ W.heap.size ≤ b) [.int .u8 q', .slice A' n' c'] (forceT Q t) ∧ Below W.heap.size W w' := by
  obtain ⟨q', ns, rfl, h⟩ := h
  have hq : q = q' := by
    obtain ⟨_, _, _, e, -⟩ := h
    simp only [List.cons.injEq, Value.int.injEq, true_and] at e
    exact e.1
  subst hq
  have hn : n ≤ 1000000 := by
    cases ho with
    | mk d0 d1 hn hm hk =>
      obtain ⟨_, _, _, e, -, -, hl, hm', -⟩ := h
      simp only [List.cons.injEq, Value.slice.injEq, and_true, true_and] at e
      obtain ⟨rfl, rfl, rfl⟩ := e
      simp only at hl hm'
      have e2 := Nat.div_add_mod n (wd q)
      rw [hl] at hn
      have hw := wd_cases q d0 d1
      rcases hw with ⟨_, h⟩ | ⟨_, h⟩ | ⟨_, h⟩ | ⟨_, h⟩ <;> rw [h] at hn hm' e2 <;> omega
  refine (LsForce_any Q q Q0 Q1 W h hn).mono ?_
  rintro e w' ⟨A', n', c', rfl, h', hb⟩
  exact ⟨Q, A', n', c', rfl, ⟨Q, forceS Q q ns, by rw [forceT_mk]; rfl, h'⟩, hb⟩

/-- The cells cs read as a geometry of kind K that holds a row of parts, each of which reads as R says in sz cells. -/
def RowG (R : World → (Nat → Prop) → List Value → Gm → Prop) (e : TypeId) (sz : Nat) (K : Int) (w : World) (ok : Nat → Prop) (cs : List Value) (t : Gm) : Prop :=
  ∃ (A : Option Addr) (n c : Nat) (q : Int) (ks : List Gm), t = .mk K q [] ks ∧ cs = [.slice A n c, .int .u8 q] ∧ 0 ≤ q ∧ q ≤ 3 ∧ ks.length = n ∧ n ≤ 100000 ∧ KRow R e sz w ok (.slice A n c) ks
theorem RowG.keeps {R : World → (Nat → Prop) → List Value → Gm → Prop} (hR : Keeps R) (e : TypeId) (sz : Nat) (K : Int) : Keeps (RowG R e sz K) := by
  rintro w w' ok ok' cs t ⟨A, n, c, q, ks, rfl, rfl, h0, h1, hl, hn, h⟩ hk ho
  exact ⟨A, n, c, q, ks, rfl, rfl, h0, h1, hl, hn, KRow.keep hR h hk ho⟩
theorem RowG.shape {R : World → (Nat → Prop) → List Value → Gm → Prop} {e : TypeId} {sz : Nat} {K : Int} {w : World} {ok : Nat → Prop} {x : List Value} {t : Gm} (h : RowG R e sz K w ok x t) : ∃ (A : Option Addr) (n c : Nat) (q : Int), x = [.slice A n c, .int .u8 q] ∧ t.d = q ∧ 0 ≤ q ∧ q ≤ 3 := by
  obtain ⟨A, n, c, q, ks, rfl, rfl, h0, h1, -⟩ := h
  exact ⟨A, n, c, q, rfl, rfl, h0, h1⟩

abbrev PgG := RowG LsG 89 2 3
abbrev MlG := RowG LsG 89 2 5
theorem PgG.keeps : Keeps PgG := RowG.keeps LsG.keeps _ _ _
theorem MlG.keeps : Keeps MlG := RowG.keeps LsG.keeps _ _ _

theorem dand_u8 {a b : Int} (a0 : 0 ≤ a) (a1 : a ≤ 3) (b0 : 0 ≤ b) (b1 : b ≤ 3) : bits .and .u8 a b = dand a b := by
  have h : a = 0 ∨ a = 1 ∨ a = 2 ∨ a = 3 := by omega
  have h' : b = 0 ∨ b = 1 ∨ b = 2 ∨ b = 3 := by omega
  rcases h with rfl | rfl | rfl | rfl <;> rcases h' with rfl | rfl | rfl | rfl <;> decide
/-- The type that parts have in common. -/
def ctF (ms : List Gm) : Int := ms.foldl (fun a m => dand a m.d) 3

/-- Parts of which the first k have been brought to type Q. -/
def MidG (R : World → (Nat → Prop) → List Value → Gm → Prop) (sz : Nat) (w : World) (ok : Nat → Prop) (Q : Int) (ts : List Gm) (k : Nat) (css : List (List Value)) : Prop :=
  css.length = ts.length ∧ (∀ x ∈ css, x.length = sz) ∧ ∀ (i : Nat) (x : List Value) (t : Gm), css[i]? = some x → ts[i]? = some t → R w ok x (if i < k then forceT Q t else t)
theorem MidG.keep {R : World → (Nat → Prop) → List Value → Gm → Prop} (hR : Keeps R) {sz : Nat} {w w' : World} {ok ok' : Nat → Prop} {Q : Int} {ts : List Gm} {k : Nat} {css : List (List Value)} (h : MidG R sz w ok Q ts k css) (hk : ∀ b, ok b → b < w.heap.size → w'.heap[b]? = w.heap[b]?) (ho : ∀ b, ok b → b < w.heap.size → ok' b) : MidG R sz w' ok' Q ts k css :=
  ⟨h.1, h.2.1, fun i x s hx hs => hR _ _ _ _ _ _ (h.2.2 i x s hx hs) hk ho⟩
theorem MidG.next {R : World → (Nat → Prop) → List Value → Gm → Prop} {sz : Nat} {w : World} {ok : Nat → Prop} {Q : Int} {ts : List Gm} {k : Nat} {css : List (List Value)} {y : List Value} {s : Gm} (h : MidG R sz w ok Q ts k css) (hs : ts[k]? = some s) (hy : y.length = sz) (hx : R w ok y (forceT Q s)) : MidG R sz w ok Q ts (k + 1) (css.set k y) := by
  refine ⟨by rw [List.length_set]; exact h.1, fun x hx' => ?_, fun i x t hi ht => ?_⟩
  · rcases List.mem_or_eq_of_mem_set hx' with h' | h'
    · exact h.2.1 x h'
    · rw [h']; exact hy
  · by_cases e : i = k
    · subst e
      have hl : i < css.length := by rw [h.1]; exact (List.getElem?_eq_some_iff.1 hs).1
      rw [List.getElem?_set_self hl] at hi
      injection hi with hi
      rw [hs] at ht
      injection ht with ht
      rw [← hi, ← ht, if_pos (by omega)]
      exact hx
    · rw [List.getElem?_set_ne (fun e' => e e'.symm)] at hi
      have := h.2.2 i x t hi ht
      by_cases hik : i < k
      · rw [if_pos hik] at this
        rw [if_pos (by omega)]
        exact this
      · rw [if_neg hik] at this
        rw [if_neg (by omega)]
        exact this
/-- All brought to the type: a row again. -/
theorem MidG.row {R : World → (Nat → Prop) → List Value → Gm → Prop} (hR : Keeps R) {sz : Nat} {e : TypeId} {w : World} {ok ok' : Nat → Prop} {Q : Int} {ts : List Gm} {n c g : Nat} {css : List (List Value)} (h : MidG R sz w ok Q ts n css) (hn : ts.length = n) (ho : w.ownsRow 0 e sz (.slice (some ⟨g, 0, none⟩) n c) n css.flatten) (hok : ∀ b, ok b → ok' b ∧ b ≠ g) (hg : ok' g) : KRow R e sz w ok' (.slice (some ⟨g, 0, none⟩) n c) (ts.map (forceT Q)) := by
  refine ⟨css, by rw [List.length_map, hn]; exact ho, fun b hb => by injection hb with hb; rw [← hb]; exact hg, by rw [List.length_map]; exact h.1, h.2.1, fun i x t hx ht => ?_⟩
  rw [List.getElem?_map] at ht
  obtain ⟨s, hs, rfl⟩ := Option.map_eq_some_iff.1 ht
  have h' := h.2.2 i x s hx hs
  have hi1 : i < ts.length := (List.getElem?_eq_some_iff.1 hs).1
  rw [if_pos (by omega)] at h'
  exact hR _ _ _ _ _ _ h' (fun _ _ _ => rfl) (fun b hb _ => ⟨(hok b hb).1, fun e => by injection e with e; exact (hok b hb).2 e.symm⟩)

/-- An element of a row: its cells, and what they read as. -/
theorem row_at {R : World → (Nat → Prop) → List Value → Gm → Prop} {e : TypeId} {sz : Nat} {w : World} {ok : Nat → Prop} {A : Option Addr} {n c : Nat} {ts : List Gm} (hn : ts.length = n) (h : KRow R e sz w ok (.slice A n c) ts) {q : Nat} (hq : q < n) :
    ∃ (g : Nat) (x : List Value) (t : Gm), A = some ⟨g, 0, none⟩ ∧ ok g ∧ ts[q]? = some t ∧ x.length = sz ∧ (∀ j u, x[j]? = some u → w.cell? ⟨g, q * sz + j, none⟩ = some u) ∧ R w (fun b => ok b ∧ b ≠ g) x t ∧ (0 < sz → g < w.heap.size) := by
  obtain ⟨css, h1, h2, h3, h4, h5⟩ := h
  have hr : ts[q]? = some (ts[q]'(by omega)) := List.getElem?_eq_getElem _
  have hc : css[q]? = some (css[q]'(by omega)) := List.getElem?_eq_getElem _
  generalize (ts[q]'(by omega)) = s at hr
  generalize (css[q]'(by omega)) = x at hc
  have hx := h5 q x s hc hr
  have hxl : x.length = sz := h4 x (List.mem_of_getElem? hc)
  rcases h1.2 with ⟨e0, h0⟩ | ⟨g, cap, cur, e0, _, hgg, _⟩
  · omega
  · injection e0 with e1 e2 e3
    subst e1
    have ad : ∀ g j : Nat, (⟨g, 0, none⟩ : Addr).add j = ⟨g, j, none⟩ := fun g j => by unfold Addr.add; split <;> simp_all
    refine ⟨g, x, s, rfl, h2 g rfl, hr, hxl, fun j u hu => ?_, R_mono hx, fun _ => (Array.getElem?_eq_some_iff.1 hgg).1⟩
    · have hj : j < sz := by rw [← hxl]; exact (List.getElem?_eq_some_iff.1 hu).1
      have k0 := h1.cells (g := g) rfl (q * sz + j) u (by rw [flat_at h4 hc hj]; exact hu)
      rwa [ad] at k0
where
  R_mono {R : World → (Nat → Prop) → List Value → Gm → Prop} {w : World} {ok : Nat → Prop} {n c g : Nat} {x : List Value} {t : Gm} (h : R w (fun b => ok b ∧ (Value.slice (some ⟨g, 0, none⟩) n c).ownBlock ≠ some b) x t) : R w (fun b => ok b ∧ b ≠ g) x t := by
    have e : (fun b => ok b ∧ (Value.slice (some ⟨g, 0, none⟩) n c).ownBlock ≠ some b) = (fun b => ok b ∧ b ≠ g) := by
      funext b
      refine propext ⟨fun h => ⟨h.1, fun e => h.2 (by rw [e]; rfl)⟩, fun h => ⟨h.1, fun e => ?_⟩⟩
      injection e with e
      exact h.2 e.symm
    rw [← e]
    exact h

theorem own_store {w : World} {base sz n g : Nat} {e : TypeId} {v : Value} {xs : List Value} (h : w.ownsRow base e sz v n xs) (hg : v.ownBlock = some g) {k : Nat} (_ : k < xs.length) (u : Value) : (w.setCell ⟨g, k, none⟩ u).ownsRow base e sz v n (xs.set k u) := by
  refine ⟨by rw [List.length_set]; exact h.1, ?_⟩
  rcases h.2 with ⟨rfl, _⟩ | ⟨g', cap, cur, rfl, hb, hgg, h1, h2, h3, h4⟩
  · simp [Value.ownBlock] at hg
  · simp [Value.ownBlock] at hg
    subst hg
    refine .inr ⟨g', cap, cur.setIfInBounds k u, rfl, hb, Blk.set_ hgg k u, h1, h2, by simpa using h3, ?_⟩
    rw [← h4, Array.toList_setIfInBounds, List.take_set]

theorem own_frozen {w : World} {base sz n g : Nat} {e : TypeId} {v : Value} {xs : List Value} (h : w.ownsRow base e sz v n xs) (hg : v.ownBlock = some g) (i : Nat) : w.frozen? ⟨g, i, none⟩ = false := by
  rcases h.2 with ⟨rfl, _⟩ | ⟨g', cap, cur, rfl, _, hgg, _⟩
  · simp [Value.ownBlock] at hg
  · simp [Value.ownBlock] at hg
    subst hg
    exact Blk.frozen hgg i

theorem flat_set2 {a b : Value} : ∀ {css : List (List Value)} {k : Nat}, (∀ x ∈ css, x.length = 2) → k < css.length → (css.set k [a, b]).flatten = (css.flatten.set (k * 2) a).set (k * 2 + 1) b
  | [], _, _, h => by simp at h
  | x :: css, 0, el, _ => by
    have hx := el x (List.mem_cons_self ..)
    match x, hx with
    | [u, v], _ => rfl
  | x :: css, k + 1, el, h => by
    have hx := el x (List.mem_cons_self ..)
    have ih := flat_set2 (a := a) (b := b) (css := css) (k := k) (fun y hy => el y (List.mem_cons_of_mem _ hy)) (by simpa using h)
    match x, hx with
    | [u, v], _ =>
      rw [List.set_cons_succ, List.flatten_cons, List.flatten_cons, ih, show (k + 1) * 2 = k * 2 + 1 + 1 by omega]
      rfl

theorem copied_row {W wr W1 : World} {v1 : Value} {e : TypeId} {sz n : Nat} {xs : List Value} {T : TypeId} {cs : Array Value} (ho : W1.ownsRow 0 e sz v1 (0 + n) ([] ++ xs)) (hg : wr.grownBy W1 none) (hp : v1.ownBlock = none ∨ v1.ownBlock = some wr.heap.size) (hbr : Below W.heap.size W wr) (hs : W.heap.size ≤ wr.heap.size) (x0 : Blk wr W.heap.size T cs) (hn0 : 0 < n) (hsr : W.heap.size + 1 ≤ wr.heap.size) :
    ∃ (c1 g1 : Nat), v1 = .slice (some ⟨g1, 0, none⟩) n c1 ∧ W.heap.size + 1 ≤ g1 ∧ W1.ownsRow 0 e sz (.slice (some ⟨g1, 0, none⟩) n c1) n xs ∧ Below W.heap.size W W1 ∧ Blk W1 W.heap.size T cs := by
  rw [Nat.zero_add, List.nil_append] at ho
  obtain ⟨A1, c1, rfl, hv1⟩ := own_shp ho
  obtain ⟨g1, rfl, hv1⟩ := hv1 hn0
  have hg1 : W.heap.size + 1 ≤ g1 := by
    rcases hp with e | e
    · rw [e] at hv1; cases hv1
    · rw [e] at hv1; injection hv1 with e; omega
  exact ⟨c1, g1, rfl, hg1, ho, below_grownBy hbr hs hg (fun b hb => by cases hb), x0.grown hg (by simp)⟩

theorem OkT.dr {t : Gm} (h : OkT t) : 0 ≤ t.d ∧ t.d ≤ 3 := by
  cases h with
  | mk a b c d e => exact ⟨a, b⟩
theorem one_cells {R : World → (Nat → Prop) → List Value → Gm → Prop} {w : World} {ok : Nat → Prop} {ts : List Gm} {css : List (List Value)} (hR : ∀ (w : World) (ok : Nat → Prop) (x : List Value) (t : Gm), R w ok x t → ∀ u ∈ x, u.oneCell' = true) (h3 : css.length = ts.length) (h5 : ∀ (i : Nat) (x : List Value) (t : Gm), css[i]? = some x → ts[i]? = some t → R w ok x t) :
    ∀ u ∈ css.flatten, u.oneCell' = true := by
  intro u hu
  obtain ⟨x, hx, hux⟩ := List.mem_flatten.1 hu
  obtain ⟨i, hi⟩ := List.mem_iff_getElem?.1 hx
  have hl : i < ts.length := by have := (List.getElem?_eq_some_iff.1 hi).1; omega
  exact hR _ _ _ _ (h5 i x _ hi (List.getElem?_eq_getElem hl)) u hux

theorem LsCT_G {ok : Nat → Prop} {q : Int} {A : Option Addr} {n c : Nat} {t : Gm} (W : World) (h : LsG W ok [.int .u8 q, .slice A n c] t) :
    Calls Tryz.prog 95 #[.agg #[.int .u8 q, .slice A n c]] W fun e w' => e = .returned (.int .u8 t.d) ∧ Below W.heap.size W w' := by
  obtain ⟨q', A', n', c', e, hd, -⟩ := h.shape
  simp only [List.cons.injEq, Value.int.injEq, true_and] at e
  rw [hd, ← e.1]
  exact LsCT q A n c W
theorem info_ls : (Tryz.prog.info? 89).map (fun i => (i.zero, i.size, i.bytes)) = some (some (.agg #[.int .u8 0, .slice none 0 0]), 2, 32) := by kernel_rfl
/-- A row under filling: the first k elements are there. -/
def FillG (R : World → (Nat → Prop) → List Value → Gm → Prop) (sz : Nat) (w : World) (ok : Nat → Prop) (ts : List Gm) (k : Nat) (css : List (List Value)) : Prop :=
  css.length = ts.length ∧ (∀ x ∈ css, x.length = sz) ∧ ∀ (i : Nat) (x : List Value) (t : Gm), i < k → css[i]? = some x → ts[i]? = some t → R w ok x t
theorem FillG.keep {R : World → (Nat → Prop) → List Value → Gm → Prop} (hR : Keeps R) {sz : Nat} {w w' : World} {ok ok' : Nat → Prop} {ts : List Gm} {k : Nat} {css : List (List Value)} (h : FillG R sz w ok ts k css) (hk : ∀ b, ok b → b < w.heap.size → w'.heap[b]? = w.heap[b]?) (ho : ∀ b, ok b → b < w.heap.size → ok' b) : FillG R sz w' ok' ts k css :=
  ⟨h.1, h.2.1, fun i x s hi hx hs => hR _ _ _ _ _ _ (h.2.2 i x s hi hx hs) hk ho⟩
theorem FillG.next {R : World → (Nat → Prop) → List Value → Gm → Prop} {sz : Nat} {w : World} {ok : Nat → Prop} {ts : List Gm} {k : Nat} {css : List (List Value)} {y : List Value} {s : Gm} (h : FillG R sz w ok ts k css) (hs : ts[k]? = some s) (hy : y.length = sz) (hx : R w ok y s) : FillG R sz w ok ts (k + 1) (css.set k y) := by
  refine ⟨by rw [List.length_set]; exact h.1, fun x hx' => ?_, fun i x t hik hi ht => ?_⟩
  · rcases List.mem_or_eq_of_mem_set hx' with h' | h'
    · exact h.2.1 x h'
    · rw [h']; exact hy
  · by_cases e : i = k
    · subst e
      have hl : i < css.length := by rw [h.1]; exact (List.getElem?_eq_some_iff.1 hs).1
      rw [List.getElem?_set_self hl] at hi
      injection hi with hi
      rw [hs] at ht
      injection ht with ht
      rw [← hi, ← ht]
      exact hx
    · rw [List.getElem?_set_ne (fun e' => e e'.symm)] at hi
      exact h.2.2 i x t (by omega) hi ht
theorem FillG.row {R : World → (Nat → Prop) → List Value → Gm → Prop} (hR : Keeps R) {sz : Nat} {e : TypeId} {w : World} {ok ok' : Nat → Prop} {ts : List Gm} {n c g : Nat} {css : List (List Value)} (h : FillG R sz w ok ts n css) (hn : ts.length = n) (ho : w.ownsRow 0 e sz (.slice (some ⟨g, 0, none⟩) n c) n css.flatten) (hok : ∀ b, ok b → ok' b ∧ b ≠ g) (hg : ok' g) : KRow R e sz w ok' (.slice (some ⟨g, 0, none⟩) n c) ts := by
  refine ⟨css, by rw [hn]; exact ho, fun b hb => by injection hb with hb; rw [← hb]; exact hg, h.1, h.2.1, fun i x t hx ht => ?_⟩
  have hi1 : i < ts.length := (List.getElem?_eq_some_iff.1 ht).1
  exact hR _ _ _ _ _ _ (h.2.2 i x t (by omega) hx ht) (fun _ _ _ => rfl) (fun b hb _ => ⟨(hok b hb).1, fun e => by injection e with e; exact (hok b hb).2 e.symm⟩)
theorem chunks {sz : Nat} : ∀ (n : Nat) (l : List Value), l.length = n * sz → ∃ css : List (List Value), css.length = n ∧ (∀ x ∈ css, x.length = sz) ∧ css.flatten = l
  | 0, l, h => ⟨[], rfl, by simp, by simp at h; simp [h]⟩
  | n + 1, l, h => by
    rw [Nat.succ_mul] at h
    obtain ⟨css, h1, h2, h3⟩ := chunks (sz := sz) n (l.drop sz) (by rw [List.length_drop]; omega)
    refine ⟨l.take sz :: css, by simp [h1], fun x hx => ?_, by rw [List.flatten_cons, h3, List.take_append_drop]⟩
    rcases List.mem_cons.1 hx with rfl | hx
    · rw [List.length_take]; omega
    · exact h2 x hx
/-- A row that has just been made. -/
theorem row_made {R : World → (Nat → Prop) → List Value → Gm → Prop} {sz : Nat} {e : TypeId} {w : World} {ok : Nat → Prop} {ts : List Gm} {n : Nat} {cur : Array Value} (hn : ts.length = n) (hc : cur.size = n * sz) (hm : n ≤ 100000) :
    ∃ css : List (List Value), (w.alloc (.cells cur e)).ownsRow 0 e sz (.slice (some ⟨w.heap.size, 0, none⟩) n n) n css.flatten ∧ FillG R sz (w.alloc (.cells cur e)) ok ts 0 css := by
  obtain ⟨css, h1, h2, h3⟩ := chunks (sz := sz) n cur.toList (by simpa using hc)
  refine ⟨css, ⟨by rw [h3]; simpa using hc, .inr ⟨w.heap.size, n, cur, rfl, Nat.zero_le _, heap_alloc_new w _, Nat.le_refl _, by simp only [maxLen]; omega, hc, ?_⟩⟩, ⟨by rw [h1, hn], h2, fun i x t hi => by omega⟩⟩
  rw [h3, List.take_of_length_le]
  simp [hc]
theorem list2 {x : List Value} (h : x.length = 2) : ∃ a b, x = [a, b] := by
  match x, h with
  | [a, b], _ => exact ⟨a, b, rfl⟩

theorem row_force_nil (Q q : Int) : plsNums Q (ptsN q [] (([] : List Nat).length / wd q)) = [] := by simp [ptsN, plsNums]

end Go.Proofs.YtofdccmmagcamaaGreatDoor

/- Texts of rows of parts: their lengths, what stands ahead of a part. -/
set_option maxHeartbeats 8000000
set_option linter.unusedSimpArgs false
set_option linter.unusedVariables false
namespace Go.Proofs.YtofdccmmagcamaaGreatDoor
open Go.RowKit

theorem sum_snoc_take {ks : List Gm} {k : Nat} {s : Gm} (h : ks[k]? = some s) : ((ks.take k).map Gm.np).sum + s.np ≤ (ks.map Gm.np).sum := by
  have e := List.take_append_drop (k + 1) ks
  rw [List.take_add_one, h, Option.toList_some] at e
  have h2 := congrArg (fun l : List Gm => (l.map Gm.np).sum) e
  simp only [List.map_append, List.sum_append, List.map_cons, List.map_nil, List.sum_cons, List.sum_nil] at h2
  omega
section
variable {w w1 W : World} {v v' : Value} {bs : List Int} {ok : Nat → Prop}
end

end Go.Proofs.YtofdccmmagcamaaGreatDoor

/- Texts as strings. -/
set_option maxHeartbeats 8000000
set_option linter.unusedSimpArgs false
set_option linter.unusedVariables false
namespace Go.Proofs.YtofdccmmagcamaaGreatDoor
open Go.RowKit Go.Proofs.YtofdccmmagcamaaGreatDoorW.PrintLast

attribute [local go_sem] run_store_float

end Go.Proofs.YtofdccmmagcamaaGreatDoor
