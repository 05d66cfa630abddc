/- Geometries that a call makes: trees whose blocks answer a test, rows of them under construction, and what New and ForceCoordinatesType make of plain data. -/
import Derived.Test.YtpbcfgehmalppaaGreatDoorJsH
namespace Go.Proofs.YtpbcfgehmalppaaGreatDoor
open Go.RowKit

/-- The cells cs read as the geometry t in world w, in blocks that answer ok. -/
inductive GmOn (w : World) (ok : Nat → Prop) : List Value → Gm → Prop
  | mk {k d : Int} {ns : List Nat} {ks : List Gm} {n m : Nat} {A K : Option Addr} {c c' : Nat} {css : List (List Value)} (en : ns.length = n)
      (hn : 0 < n → ∃ g, A = some ⟨g, 0, none⟩ ∧ ok g ∧ ∀ j, j < n → w.cell? ⟨g, j, none⟩ = some (.float .f64 (ns.getD j 0))) (hb : ∀ b ∈ ns, b < 18446744073709551616)
      (em : ks.length = m) (ec : css.length = m) (el : ∀ x ∈ css, x.length = 4)
      (hk : 0 < m → ∃ g, K = some ⟨g, 0, none⟩ ∧ ok g ∧ ∀ j u, css.flatten[j]? = some u → w.cell? ⟨g, j, none⟩ = some u)
      (hs : ∀ (i : Nat) (x : List Value) (t : Gm), css[i]? = some x → ks[i]? = some t → GmOn w ok x t) :
      GmOn w ok [.int .i64 k, .int .i64 d, .slice A n c, .slice K m c'] (.mk k d ns ks)

/-- A relation of cells to data that holds on where its blocks keep. -/
def Keeps {T : Type} (R : World → (Nat → Prop) → List Value → T → Prop) : Prop :=
  ∀ w w' ok ok' cs t, R w ok cs t → (∀ b, ok b → b < w.heap.size → w'.heap[b]? = w.heap[b]?) → (∀ b, ok b → b < w.heap.size → ok' b) → R w' ok' cs t

theorem cell_lt {w : World} {g j : Nat} {u : Value} (h : w.cell? ⟨g, j, none⟩ = some u) : g < w.heap.size := World.block_lt_of_cell? w _ h

theorem GmOn.keeps : Keeps GmOn := by
  intro w w' ok ok' cs t h hk ho
  induction h with
  | @mk k d ns ks n m A K c c' css en hn hb em ec el hk' hs ih =>
    refine .mk en (fun h0 => ?_) hb em ec el (fun h0 => ?_) ih
    · obtain ⟨g, e, hg, hc⟩ := hn h0
      have hl := cell_lt (hc 0 h0)
      exact ⟨g, e, ho g hg hl, fun j hj => (World.cell?_of_block (hk g hg hl)).trans (hc j hj)⟩
    · obtain ⟨g, e, hg, hc⟩ := hk' h0
      have hl : g < w.heap.size := by
        have hx : css.flatten[0]? ≠ none := by
          rcases css with _ | ⟨x, css⟩
          · simp at ec; omega
          · have := el x (List.mem_cons_self ..)
            rcases x with _ | ⟨u, x⟩
            · simp at this
            · simp
        obtain ⟨u, hu⟩ := Option.ne_none_iff_exists'.1 hx
        exact cell_lt (hc 0 u hu)
      exact ⟨g, e, ho g hg hl, fun j u hu => (World.cell?_of_block (hk g hg hl)).trans (hc j u hu)⟩

/-- A row under construction: the slice v has elements of sz cells that read as ts, in blocks that answer ok; no element lies in the row's own block. -/
def KRow {T : Type} (R : World → (Nat → Prop) → List Value → T → Prop) (e : TypeId) (sz : Nat) (w : World) (ok : Nat → Prop) (v : Value) (ts : List T) : Prop :=
  ∃ css : List (List Value), w.ownsRow 0 e sz v ts.length css.flatten ∧ (∀ b, v.ownBlock = some b → ok b) ∧ css.length = ts.length ∧ (∀ x ∈ css, x.length = sz) ∧ ∀ (i : Nat) (x : List Value) (t : T), css[i]? = some x → ts[i]? = some t → R w (fun b => ok b ∧ v.ownBlock ≠ some b) x t

section
variable {T : Type} {R : World → (Nat → Prop) → List Value → T → Prop} {e : TypeId} {sz : Nat}
theorem KRow.nil (w : World) (ok : Nat → Prop) : KRow R e sz w ok (.slice none 0 0) [] := ⟨[], World.ownsRow_nil _ _ _ _, fun b hb => by simp [Value.ownBlock] at hb, rfl, by simp, by simp⟩

theorem own_keep {w w' : World} {base n : Nat} {v : Value} {xs : List Value} (h : w.ownsRow base e sz v n xs) (hk : ∀ b, v.ownBlock = some b → b < w.heap.size → w'.heap[b]? = w.heap[b]?) : w'.ownsRow base e sz v n xs := by
  refine ⟨h.1, ?_⟩
  rcases h.2 with hn | ⟨g, cap, cur, rfl, hb, hgg, rest⟩
  · exact .inl hn
  · exact .inr ⟨g, cap, cur, rfl, hb, (hk g rfl (Array.getElem?_eq_some_iff.1 hgg).1).trans hgg, rest⟩

theorem KRow.keep (hR : Keeps R) {w w' : World} {ok ok' : Nat → Prop} {v : Value} {ts : List T} (h : KRow R e sz w ok v ts) (hk : ∀ b, ok b → b < w.heap.size → w'.heap[b]? = w.heap[b]?) (ho : ∀ b, ok b → b < w.heap.size → ok' b) : KRow R e sz w' ok' v ts := by
  obtain ⟨css, h1, h2, h3, h4, h5⟩ := h
  refine ⟨css, own_keep h1 (fun b hb hl => hk b (h2 b hb) hl), fun b hb => ho b (h2 b hb) (h1.lt b hb).2, h3, h4, fun i x t hx ht => ?_⟩
  exact hR w w' _ _ x t (h5 i x t hx ht) (fun b hb hl => hk b hb.1 hl) (fun b hb hl => ⟨ho b hb.1 hl, hb.2⟩)

theorem KRow.snoc (hR : Keeps R) {W W1 : World} {ok : Nat → Prop} {v v1 : Value} {ts : List T} {css : List (List Value)} {x : List Value} {t : T} (h2 : ∀ b, v.ownBlock = some b → ok b) (h3 : css.length = ts.length) (h4 : ∀ x ∈ css, x.length = sz) (h5 : ∀ (i : Nat) (x : List Value) (t : T), css[i]? = some x → ts[i]? = some t → R W (fun b => ok b ∧ v.ownBlock ≠ some b) x t)
    (hx : R W (fun b => ok b ∧ v.ownBlock ≠ some b) x t) (hl : x.length = sz) (ho : W1.ownsRow 0 e sz v1 (ts.length + 1) (css.flatten ++ x)) (hg : W.grownBy W1 v.ownBlock) (hp : v1.ownBlock = v.ownBlock ∨ v1.ownBlock = some W.heap.size) (hok : ok W.heap.size) : KRow R e sz W1 ok v1 (ts ++ [t]) := by
  have hk : ∀ y u, R W (fun b => ok b ∧ v.ownBlock ≠ some b) y u → R W1 (fun b => ok b ∧ v1.ownBlock ≠ some b) y u := fun y u hy => by
    refine hR W W1 _ _ y u hy (fun b hb hl => hg.block b hl (fun e => hb.2 e.symm)) (fun b hb hl => ⟨hb.1, ?_⟩)
    rcases hp with e | e <;> rw [e]
    · exact hb.2
    · intro e; injection e with e; omega
  refine ⟨css ++ [x], ?_, ?_, ?_, ?_, ?_⟩
  · rw [List.length_append, List.flatten_append]
    simpa using ho
  · intro b hb
    rcases hp with e | e <;> rw [e] at hb
    · exact h2 b hb
    · injection hb with hb; rw [← hb]; exact hok
  · simp [h3]
  · intro y hy
    rcases List.mem_append.1 hy with hy | hy
    · exact h4 y hy
    · simp at hy; rw [hy]; exact hl
  · intro i y u hy hu
    rcases Nat.lt_trichotomy i ts.length with hi | hi | hi
    · rw [List.getElem?_append_left (by omega)] at hy hu
      exact hk y u (h5 i y u hy hu)
    · subst hi
      rw [List.getElem?_append_right (by omega)] at hy hu
      rw [h3] at hy
      simp at hy hu
      subst hy hu
      exact hk x t hx
    · rw [List.getElem?_eq_none (by simp; omega)] at hu
      cases hu

theorem flat_at {css : List (List Value)} (el : ∀ x ∈ css, x.length = sz) {i : Nat} {x : List Value} (h : css[i]? = some x) {j : Nat} (hj : j < sz) : css.flatten[i * sz + j]? = x[j]? := by
  induction css generalizing i with
  | nil => simp at h
  | cons y css ih =>
    have hy := el y (List.mem_cons_self ..)
    rw [List.flatten_cons]
    rcases i with _ | i
    · simp at h
      subst h
      rw [Nat.zero_mul, Nat.zero_add, List.getElem?_append_left (by omega)]
    · rw [List.getElem?_append_right (by rw [hy, Nat.succ_mul]; omega), hy]
      have e : (i + 1) * sz + j - sz = i * sz + j := by rw [Nat.succ_mul]; omega
      rw [e]
      exact ih (fun x hx => el x (List.mem_cons_of_mem _ hx)) (by simpa using h)
end

section
variable {T : Type} {R : World → (Nat → Prop) → List Value → T → Prop} {e : TypeId} {sz : Nat}
/-- A row behind the append of what a call has made. -/
theorem KRow.pushed (hR : Keeps R) {wr w4 W1 : World} {ok : Nat → Prop} {v v1 : Value} {ts : List T} {css : List (List Value)} {x : List Value} {t : T} {o : Obj} (h2 : ∀ b, v.ownBlock = some b → ok b) (h1 : wr.ownsRow 0 e sz v ts.length css.flatten) (h3 : css.length = ts.length) (h4 : ∀ x ∈ css, x.length = sz)
    (h5 : ∀ (i : Nat) (x : List Value) (t : T), css[i]? = some x → ts[i]? = some t → R wr (fun b => ok b ∧ v.ownBlock ≠ some b) x t) (hb : Below wr.heap.size wr w4) (hx : R w4 (fun b => wr.heap.size ≤ b) x t) (hl : x.length = sz) (hok : ∀ b, wr.heap.size ≤ b → ok b)
    (ho : W1.ownsRow 0 e sz v1 (ts.length + 1) (css.flatten ++ x)) (hg : (w4.alloc o).grownBy W1 v.ownBlock) (hp : v1.ownBlock = v.ownBlock ∨ v1.ownBlock = some (w4.alloc o).heap.size) : KRow R e sz W1 ok v1 (ts ++ [t]) ∧ wr.grownBy W1 v.ownBlock := by
  have hk : ∀ b, b < wr.heap.size → (w4.alloc o).heap[b]? = wr.heap[b]? := fun b hl => (Below.heap_alloc w4 o b (Nat.lt_of_lt_of_le hl hb.size)).trans (hb.block b hl)
  have hsz : wr.heap.size ≤ (w4.alloc o).heap.size := by have := hb.size; simp; omega
  refine ⟨KRow.snoc hR h2 h3 h4 (fun i y u hy hu => hR wr _ _ _ y u (h5 i y u hy hu) (fun b _ hl => hk b hl) (fun b hb _ => hb)) (hR w4 _ _ _ x t hx (fun b _ hl => Below.heap_alloc w4 o b hl) (fun b hb' _ => ⟨hok b hb', fun e => ?_⟩)) hl ho hg hp (hok _ hsz), ?_⟩
  · have := (h1.lt b e).2
    omega
  · exact ⟨hg.os.trans hb.os, hg.tape.trans hb.tape, hg.output.trans hb.output, Nat.le_trans hsz hg.size, fun b hl hne => (hg.block b (Nat.lt_of_lt_of_le hl hsz) hne).trans (hk b hl)⟩
theorem below_grownBy {B : Nat} {w w1 w2 : World} {row : Option Nat} (h : Below B w w1) (hB : B ≤ w1.heap.size) (hg : w1.grownBy w2 row) (hr : ∀ b, row = some b → B ≤ b) : Below B w w2 :=
  h.trans ⟨hg.os, hg.tape, hg.output, hg.size, fun b hb => hg.block b (Nat.lt_of_lt_of_le hb hB) (fun e => by have := hr b e.symm; omega)⟩
end

theorem cells_four {w : World} {g T : Nat} {a0 a1 a2 a3 : Value} (h : Blk w g T #[a0, a1, a2, a3]) (b0 b1 b2 b3 : Value) :
    (w.setCell ⟨g, 0, none⟩ b0).cell? ⟨g, 0, none⟩ = some b0 ∧
    ((w.setCell ⟨g, 0, none⟩ b0).setCell ⟨g, 1, none⟩ b1).cell? ⟨g, 1, none⟩ = some b1 ∧
    (((w.setCell ⟨g, 0, none⟩ b0).setCell ⟨g, 1, none⟩ b1).setCell ⟨g, 2, none⟩ b2).cell? ⟨g, 2, none⟩ = some b2 ∧
    ((((w.setCell ⟨g, 0, none⟩ b0).setCell ⟨g, 1, none⟩ b1).setCell ⟨g, 2, none⟩ b2).setCell ⟨g, 3, none⟩ b3).cell? ⟨g, 3, none⟩ = some b3 := by
  have k0 := h.set_ 0 b0
  have k1 := k0.set_ 1 b1
  have k2 := k1.set_ 2 b2
  have k3 := k2.set_ 3 b3
  refine ⟨?_, ?_, ?_, ?_⟩
  · simpa using k0.cell 0
  · simpa using k1.cell 1
  · simpa using k2.cell 2
  · simpa using k3.cell 3

theorem list4 {x : List Value} (h : x.length = 4) : ∃ a b c d, x = [a, b, c, d] := by
  match x, h with
  | [a, b, c, d], _ => exact ⟨a, b, c, d, rfl⟩

theorem GmOn.shape {w : World} {ok : Nat → Prop} {x : List Value} {t : Gm} (h : GmOn w ok x t) : ∃ (k d : Int) (A K : Option Addr) (n m c c' : Nat), x = [.int .i64 k, .int .i64 d, .slice A n c, .slice K m c'] := by
  cases h
  exact ⟨_, _, _, _, _, _, _, _, rfl⟩

theorem own_shp {w : World} {b sz n : Nat} {e : TypeId} {v : Value} {xs : List Value} (h : w.ownsRow b e sz v n xs) : ∃ A c, v = .slice A n c ∧ (0 < n → ∃ g, A = some ⟨g, 0, none⟩ ∧ v.ownBlock = some g) := by
  rcases h.2 with ⟨rfl, rfl⟩ | ⟨g, cap, cur, rfl, _⟩
  · exact ⟨_, _, rfl, fun h => absurd h (by omega)⟩
  · exact ⟨_, _, rfl, fun _ => ⟨g, rfl, rfl⟩⟩

/-- A geometry that is made of numbers in a row of its own and of kids in a row of its own. -/
theorem GmOn.made {w : World} {ok : Nat → Prop} {k d : Int} {ns : List Nat} {ks : List Gm} {v u : Value} (hb : ∀ b ∈ ns, b < 18446744073709551616) (hv : w.ownsRow 0 45 1 v ns.length (flV ns)) (hvo : ∀ b, v.ownBlock = some b → ok b) (hu : KRow GmOn 25 4 w ok u ks) :
    GmOn w ok [.int .i64 k, .int .i64 d, v, u] (.mk k d ns ks) := by
  obtain ⟨css, h1, h2, h3, h4, h5⟩ := hu
  obtain ⟨A, c, rfl, hA⟩ := own_shp hv
  obtain ⟨K, c', rfl, hK⟩ := own_shp h1
  have ad : ∀ g j : Nat, (⟨g, 0, none⟩ : Addr).add j = ⟨g, j, none⟩ := fun g j => by unfold Addr.add; split <;> simp_all
  refine .mk rfl (fun h0 => ?_) hb rfl h3 h4 (fun h0 => ?_) (fun i x t hx ht => ?_)
  · obtain ⟨g, e, hg⟩ := hA h0
    refine ⟨g, e, hvo g hg, fun j hj => ?_⟩
    have := hv.cells hg j (.float .f64 (ns.getD j 0)) (by simp [flV, List.getD_eq_getElem?_getD, List.getElem?_eq_getElem hj])
    rwa [ad] at this
  · obtain ⟨g, e, hg⟩ := hK h0
    refine ⟨g, e, h2 g hg, fun j u hu => ?_⟩
    have := h1.cells hg j u hu
    rwa [ad] at this
  · exact GmOn.keeps w w _ _ x t (h5 i x t hx ht) (fun _ _ _ => rfl) (fun b hb _ => hb.1)

/-- What ForceCoordinatesType makes. -/
def forceT (dim : Int) : Gm → Gm
  | .mk k d ns ks => .mk k dim (plsNums dim (ptsN d ns (ns.length / wd d))) (ks.attach.map fun x => forceT dim x.1)
decreasing_by all_goals (have := List.sizeOf_lt_of_mem x.2; simp; omega)
theorem forceT_mk (dim k d : Int) (ns : List Nat) (ks : List Gm) : forceT dim (.mk k d ns ks) = .mk k dim (plsNums dim (ptsN d ns (ns.length / wd d))) (ks.map (forceT dim)) := by
  rw [forceT]
  congr 1
  simp

end Go.Proofs.YtpbcfgehmalppaaGreatDoor
