/- The reference's GeoJSON of a point. -/
import Derived.Test.YtpbcfgehmalppaaDoorJsI
import Derived.Test.YtpbcfgehmalppaaDoorJsF
namespace Go.Proofs.YtpbcfgehmalppaaDoor
open Go.RowKit

attribute [local go_sem] run_store_float

theorem Rw.first {w0 w : World} {row : Option Nat} {v : Value} {ns : List Nat} (h : Rw 22 w0 w row v (flV ns)) : ∃ (A : Option Addr) (g c : Nat), v = .slice A ns.length c ∧ (0 < ns.length → A = some ⟨g, 0, none⟩ ∧ ∀ j, j < ns.length → w.cell? ⟨g, j, none⟩ = some (.float .f64 (ns.getD j 0))) := by
  rcases h.own.2 with ⟨rfl, h0⟩ | ⟨g, cap, cur, rfl, _⟩
  · rw [flV_length] at h0; rw [h0]; exact ⟨none, 0, 0, rfl, fun h => absurd h (by omega)⟩
  · refine ⟨_, g, cap, by rw [flV_length], fun _ => ⟨rfl, fun j hj => ?_⟩⟩
    obtain ⟨g', c', e, hc⟩ := h.cell (k := j) (by rw [flV_length]; exact hj)
    injection e with e _ _
    injection e with e
    injection e with e _ _
    subst e
    rw [hc]
    simp [flV, List.getD_eq_getElem?_getD, List.getElem?_eq_getElem hj]

theorem place_cells {e : TypeId} {w0 W : World} {row : Option Nat} {v : Value} {p : Pl} (h : Rn e 4 w0 W row v 1 (plV [p])) :
    ∃ g c, v = .slice (some ⟨g, 0, none⟩) 1 c ∧ W.cell? ⟨g, 0, none⟩ = some (.float .f64 p.1) ∧ W.cell? ⟨g, 1, none⟩ = some (.float .f64 p.2.1) ∧ W.cell? ⟨g, 2, none⟩ = some (.float .f64 p.2.2.1) ∧ W.cell? ⟨g, 3, none⟩ = some (.float .f64 p.2.2.2) := by
  rcases h.own.2 with ⟨_, h0⟩ | ⟨g, cap, cur, rfl, _⟩
  · omega
  · have hc := fun j u hu => h.own.cells (g := g) rfl j u hu
    have ha : ∀ j, (⟨g, 0, none⟩ : Addr).add j = ⟨g, j, none⟩ := fun j => by unfold Addr.add; split <;> simp_all
    refine ⟨g, cap, rfl, ?_, ?_, ?_, ?_⟩
    · have := hc 0 (.float .f64 p.1) (by simp [plV]); rwa [ha] at this
    · have := hc 1 (.float .f64 p.2.1) (by simp [plV]); rwa [ha] at this
    · have := hc 2 (.float .f64 p.2.2.1) (by simp [plV]); rwa [ha] at this
    · have := hc 3 (.float .f64 p.2.2.2) (by simp [plV]); rwa [ha] at this

/-- A point's coordinates in GeoJSON. -/
def bodyJ (hi lo : Nat → Int) (q : Int) (ns : List Nat) (k : Nat) : List Int := if k = 0 then [91, 93] else coordJ hi lo q (ptN q ns 0)

set_option maxHeartbeats 1000000 in
set_option maxRecDepth 100000 in
theorem jsonBody_point (q : Int) (q0 : 0 ≤ q) (q1 : q ≤ 3) (g n c : Nat) (A : Option Addr) (ns : List Nat) (hi lo : Nat → Int) (w : World) (ht : FtTabs w hi lo) (hA : 0 < n → A = some ⟨g, 0, none⟩ ∧ ∀ j, j < n → w.cell? ⟨g, j, none⟩ = some (.float .f64 (ns.getD j 0)))
    (hn : n = 0 ∨ n = wd q) (hb : ∀ b ∈ ns, b < 18446744073709551616) :
    Calls Tryd.prog 34 #[.agg #[.int .i64 1, .int .i64 q, .slice A n c, .slice none 0 0]] w fun e w' => e = .returned (.string (strOfNums (bodyJ hi lo q ns n))) ∧ Below w.heap.size w w' := by
  have hwp : 2 ≤ wd q ∧ wd q ≤ 4 := by rcases wd_cases q q0 q1 with ⟨_, h⟩ | ⟨_, h⟩ | ⟨_, h⟩ | ⟨_, h⟩ <;> rw [h] <;> omega
  have hbox := Blk.new w 37 #[.int .i64 1, .int .i64 q, .slice A n c, .slice none 0 0]
  have hA2 : 0 < n → A = some ⟨g, 0, none⟩ ∧ ∀ j, j < n → (w.alloc (.cells #[.int .i64 1, .int .i64 q, .slice A n c, .slice none 0 0] 37)).cell? ⟨g, j, none⟩ = some (.float .f64 (ns.getD j 0)) := fun h0 => by
    obtain ⟨e, hc⟩ := hA h0
    exact ⟨e, fun j hj => (World.cell?_alloc_lt w _ _ (World.block_lt_of_cell? w _ (hc j hj))).trans (hc j hj)⟩
  have hP := Places_any q q0 q1 g n c A ns (w.alloc (.cells #[.int .i64 1, .int .i64 q, .slice A n c, .slice none 0 0] 37)) hA2 (by omega)
  have hg0 : Below w.heap.size w (w.alloc (.cells #[.int .i64 1, .int .i64 q, .slice A n c, .slice none 0 0] 37)) := (Below.refl _ _).alloc (Nat.le_refl _) _
  obtain ⟨l0, l1, l2, _⟩ := ptN_lt (q := q) hb 0
  have HT := Lib.hid (ht.below hg0)
  have HX := Lib.hid hbox
  have HG := Lib.hid hg0
  rcases hn with h0 | h0
  · subst h0
    rw [Nat.zero_div] at hP
    have e : plV (ptsN q ns 0) = [] := rfl
    rw [e] at hP
    have HP := Lib.hid hP
    clear hP hA hA2 hbox hg0 ht hb e
    go_enter Tryd.func34, Tryd.ntmps34
    go_wp2_with fail
    refine HP.out.mono ?_
    rintro e w1 ⟨v1, rfl, k1⟩
    have hv : ∃ A c, v1 = .slice A 0 c := own_shape (n := 0) k1.own
    obtain ⟨A1, c1, rfl⟩ := hv
    have HB := Lib.hid (HG.out.trans (k1.below0.mono (by simp)))
    clear k1
    go_wp2
    refine wp_loop_rounds 1 ?_
    rw [rounds_succ]
    go_wp2
    go_ret
    exact ⟨rfl, HB.out⟩
  · have e1 : n / wd q = 1 := by rw [h0]; exact Nat.div_self (by omega)
    rw [e1] at hP
    have e : plV (ptsN q ns 1) = plV [ptN q ns 0] := rfl
    rw [e] at hP
    have hbj : bodyJ hi lo q ns n = coordJ hi lo q (ptN q ns 0) := by unfold bodyJ; rw [if_neg (by omega)]
    rw [hbj]
    generalize ptN q ns 0 = p at *
    obtain ⟨px, py, pz, pm⟩ := p
    have HP := Lib.hid hP
    clear hP hA hA2 hbox hg0 ht hb e e1 hbj h0
    go_enter Tryd.func34, Tryd.ntmps34
    go_wp2_with fail
    refine HP.out.mono ?_
    rintro e w1 ⟨v1, rfl, k1⟩
    obtain ⟨g1, c1, rfl, d0, d1, d2, d3⟩ := place_cells k1
    have hb1 := k1.below0
    have c1' := (HX.out.below hb1 (by simp)).cell 1
    have hgl : w.heap.size < w1.heap.size := by have := hb1.size; simp at this; omega
    simp at c1'
    have HB := Lib.hid (HG.out.trans (hb1.mono (by simp)))
    have HT1 := Lib.hid (HT.out.below hb1)
    clear k1 hb1
    simp only at d0 d1 d2 d3
    have f1 := (World.cell?_alloc_lt w1 (.cells #[.float .f64 px, .float .f64 py, .float .f64 pz, .float .f64 pm] 54) ⟨w.heap.size, 1, none⟩ hgl).trans c1'
    go_wp2
    refine wp_loop_rounds 1 ?_
    rw [rounds_succ]
    go_wp2_with fail
    refine (jsonPlace_any px py pz pm q hi lo (w1.alloc (.cells #[.float .f64 px, .float .f64 py, .float .f64 pz, .float .f64 pm] 54)) (HT1.out.below ((Below.refl _ _).alloc (Nat.le_refl _) _)) l0 l1 l2).mono ?_
    rintro e w2 ⟨rfl, h2⟩
    have HB2 := Lib.hid (HB.out.trans (((Below.refl _ w1).alloc (Nat.le_of_lt hgl) (.cells #[.float .f64 px, .float .f64 py, .float .f64 pz, .float .f64 pm] 54)).trans (h2.mono (by simp; omega))))
    clear h2
    go_wp2
    go_ret
    exact ⟨rfl, HB2.out⟩

end Go.Proofs.YtpbcfgehmalppaaDoor
