/- Line strings: made of plain data, brought to another type. -/
import Derived.Test.YtpbcfgehmalppaaGreatDoorPgJ
namespace Go.Proofs.YtpbcfgehmalppaaGreatDoor
open Go.RowKit

attribute [local go_sem] run_store_float

set_option maxHeartbeats 4000000 in
set_option maxRecDepth 100000 in
theorem SeqForce_any (Q q : Int) (Q0 : 0 ≤ Q) (Q1 : Q ≤ 3) {ok : Nat → Prop} {A : Option Addr} {n c : Nat} {ns : List Nat} (W : World) (h : LsOn W ok [.int .u8 q, .slice A n c] (q, ns)) (hn : n ≤ 1000000) :
    Calls Tryz.prog 131 #[.agg #[.int .u8 q, .slice A n c], .int .u8 Q] W fun e w' => ∃ (A' : Option Addr) (n' c' : Nat), e = .returned (.agg #[.int .u8 Q, .slice A' n' c']) ∧ LsOn w' (fun b => ok b ∨ W.heap.size ≤ b) [.int .u8 Q, .slice A' n' c'] (Q, forceS Q q ns) ∧ Below W.heap.size W w' := by
  have hls := h
  obtain ⟨A', n', c', e, q0, q1, hl, hm, hb, hr⟩ := h
  simp only [List.cons.injEq, Value.slice.injEq, and_true, true_and] at e
  obtain ⟨rfl, rfl, rfl⟩ := e
  simp only at q0 q1 hl hm hb hr
  by_cases hQ : Q = q
  · subst hQ
    have e1 : (Q == Q) = true := beq_self_eq_true _
    rw [forceS_same Q Q0 Q1 ns (by rw [hl]; exact hm)]
    have HLS := Lib.hid hls
    clear hls hr
    go_enter Tryz.func131, Tryz.ntmps131
    go_wp2
    go_returns
    refine ⟨A, n, c, rfl, ?_, by go_grown⟩
    exact LsOn.keeps _ _ _ _ _ _ HLS.out (fun b _ hl => Below.block (B := W.heap.size) (by go_grown) b hl) (fun b h _ => .inl h)
  · have e1 : (q == Q) = false := by rw [beq_eq_false_iff_ne]; exact fun e => hQ e.symm
    by_cases hn0 : n = 0
    · subst hn0
      obtain rfl := List.eq_nil_of_length_eq_zero hl
      clear hls hr
      go_enter Tryz.func131, Tryz.ntmps131
      go_wp2
      go_returns
      refine ⟨none, 0, 0, rfl, ⟨none, 0, 0, rfl, Q0, Q1, by simp [forceS, ptsN, plsNums], by simp, by simp [forceS, ptsN, plsNums], fun h => absurd h (by omega)⟩, by go_grown⟩
    · obtain ⟨g, rfl, hg, hblk⟩ := hr (by omega)
      have hF : forceS Q q ns = plsNums Q (ptsN q ns (n / wd q)) := by unfold forceS; rw [hl]
      have hFL : (forceS Q q ns).length = n / wd q * wd Q := by rw [hF, plsNums_wd' Q Q0 Q1, ptsN_length]
      have hFB : ∀ b ∈ forceS Q q ns, b < 18446744073709551616 := by rw [hF]; exact plsNums_lt' Q q ns _ hb
      have key : ∀ {V : Nat}, wd Q = V → (∀ (r : Nat), n / wd q = r → Calls Tryz.prog 131 #[.agg #[.int .u8 q, .slice (some ⟨g, 0, none⟩) n c], .int .u8 Q] W fun e w' => ∃ g', e = .returned (.agg #[.int .u8 Q, .slice (some ⟨g', 0, none⟩) (V * r) (V * r)]) ∧ W.heap.size ≤ g' ∧ Blk w' g' 45 (flV (plsNums Q (ptsN q ns r))).toArray ∧ Below W.heap.size W w') →
          Calls Tryz.prog 131 #[.agg #[.int .u8 q, .slice (some ⟨g, 0, none⟩) n c], .int .u8 Q] W fun e w' => ∃ (A' : Option Addr) (n' c' : Nat), e = .returned (.agg #[.int .u8 Q, .slice A' n' c']) ∧ LsOn w' (fun b => ok b ∨ W.heap.size ≤ b) [.int .u8 Q, .slice A' n' c'] (Q, forceS Q q ns) ∧ Below W.heap.size W w' := by
        intro V hV hc
        refine (hc _ rfl).mono ?_
        rintro e w' ⟨g', rfl, hg', hb', hbel⟩
        refine ⟨_, _, _, rfl, ⟨some ⟨g', 0, none⟩, V * (n / wd q), V * (n / wd q), rfl, Q0, Q1, by rw [hFL, hV, Nat.mul_comm], by rw [hV]; exact Nat.mul_mod_right _ _, hFB, fun _ => ⟨g', rfl, .inr hg', by rw [hF]; exact hb'⟩⟩, hbel⟩
      have hQc : Q = 0 ∨ Q = 1 ∨ Q = 2 ∨ Q = 3 := by omega
      rcases hQc with rfl | rfl | rfl | rfl
      · exact key rfl (fun r hr => SeqForce0 q q0 q1 e1 W hblk hl (by omega) hm hn r hr)
      · exact key rfl (fun r hr => SeqForce1 q q0 q1 e1 W hblk hl (by omega) hm hn r hr)
      · exact key rfl (fun r hr => SeqForce2 q q0 q1 e1 W hblk hl (by omega) hm hn r hr)
      · exact key rfl (fun r hr => SeqForce3 q q0 q1 e1 W hblk hl (by omega) hm hn r hr)

set_option maxRecDepth 100000 in
theorem LsForce_any (Q q : Int) (Q0 : 0 ≤ Q) (Q1 : Q ≤ 3) {ok : Nat → Prop} {A : Option Addr} {n c : Nat} {ns : List Nat} (W : World) (h : LsOn W ok [.int .u8 q, .slice A n c] (q, ns)) (hn : n ≤ 1000000) :
    Calls Tryz.prog 112 #[.agg #[.int .u8 q, .slice A n c], .int .u8 Q] W fun e w' => ∃ (A' : Option Addr) (n' c' : Nat), e = .returned (.agg #[.int .u8 Q, .slice A' n' c']) ∧ LsOn w' (fun b => ok b ∨ W.heap.size ≤ b) [.int .u8 Q, .slice A' n' c'] (Q, forceS Q q ns) ∧ Below W.heap.size W w' := by
  have H := Lib.hid h
  clear h
  go_enter Tryz.func112, Tryz.ntmps112
  go_wp2_with fail
  have hA : Below W.heap.size W ((W.alloc (.cells #[.int .u8 q, .slice A n c] 93)).alloc (.cells #[.int .u8 0, .slice none 0 0] 93)) := ((Below.refl _ _).alloc (Nat.le_refl _) _).alloc (by simp) _
  refine (SeqForce_any Q q Q0 Q1 _ (LsOn.keeps _ _ _ (fun b => ok b ∧ b < W.heap.size) _ _ H.out (fun b _ hl => hA.block b hl) (fun b h hl => ⟨h, hl⟩)) hn).mono ?_
  rintro e w1 ⟨A', n', c', rfl, h1, b1⟩
  have x1 := (Blk.new (W.alloc (.cells #[.int .u8 q, .slice A n c] 93)) 93 #[.int .u8 0, .slice none 0 0]).below b1 (by simp)
  rw [World.size_alloc] at x1
  have c0 := x1.cell 0
  have c1 := x1.cell 1
  have z0 := x1.frozen 0
  have z1 := x1.frozen 1
  simp at c0 c1
  have e0 : (w1.setCell ⟨W.heap.size + 1, 0, none⟩ (.int .u8 Q)).cell? ⟨W.heap.size + 1, 0, none⟩ = some (.int .u8 Q) := by simpa using (x1.set_ 0 (.int .u8 Q)).cell 0
  have e1 : ((w1.setCell ⟨W.heap.size + 1, 0, none⟩ (.int .u8 Q)).setCell ⟨W.heap.size + 1, 1, none⟩ (.slice A' n' c')).cell? ⟨W.heap.size + 1, 1, none⟩ = some (.slice A' n' c') := by simpa using ((x1.set_ 0 (.int .u8 Q)).set_ 1 (.slice A' n' c')).cell 1
  have B1 := Lib.hid (hA.trans (b1.mono (by simp; omega)))
  have H1 := Lib.hid h1
  clear b1 h1 x1 hA
  go_wp2
  refine bodyPost_ret (by simp [results, Tryz.results112, go_sem, e0, e1]; try rfl) rfl ?_
  refine ⟨A', n', c', rfl, LsOn.keeps _ _ _ _ _ _ H1.out (fun b hb _ => ?_) (fun b hb _ => ?_), ?_⟩
  · have hne : b ≠ W.heap.size + 1 := by
      rcases hb with ⟨_, h⟩ | h
      · omega
      · simp at h; omega
    rw [Below.heap_setCell _ _ _ b hne, Below.heap_setCell _ _ _ b hne]
  · rcases hb with ⟨h, _⟩ | h
    · exact .inl h
    · simp at h; exact .inr (by omega)
  · exact below_setCell' (below_setCell' B1.out (Nat.le_succ _) _) (Nat.le_succ _) _

set_option maxRecDepth 100000 in
theorem NewLineString_any (q : Int) (A : Option Addr) (n c : Nat) (w : World) : Calls Tryz.prog 111 #[.agg #[.int .u8 q, .slice A n c]] w fun e w' => e = .returned (.agg #[.int .u8 q, .slice A n c]) ∧ Below w.heap.size w w' := by
  go_enter Tryz.func111, Tryz.ntmps111
  go_wp2
  go_returns
  exact ⟨rfl, by go_grown⟩

end Go.Proofs.YtpbcfgehmalppaaGreatDoor
