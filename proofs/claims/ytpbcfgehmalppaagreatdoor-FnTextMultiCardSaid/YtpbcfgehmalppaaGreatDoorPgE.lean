/- spec.New at any plain data; what New makes is a good geometry. -/
import Derived.Test.YtpbcfgehmalppaaGreatDoorPgC
import Derived.Test.YtpbcfgehmalppaaGreatDoorPgD
namespace Go.Proofs.YtpbcfgehmalppaaGreatDoor
open Go.RowKit

theorem plNums_wd (dim : Int) (d0 : 0 ≤ dim) (d1 : dim ≤ 3) (p : Pl) : (plNums dim p).length = wd dim := by
  have h : dim = 0 ∨ dim = 1 ∨ dim = 2 ∨ dim = 3 := by omega
  rcases h with rfl | rfl | rfl | rfl <;> rfl
theorem plsNums_wd (dim : Int) (d0 : 0 ≤ dim) (d1 : dim ≤ 3) (ps : List Pl) : (plsNums dim ps).length = ps.length * wd dim := by
  induction ps with
  | nil => simp [plsNums]
  | cons p ps ih =>
    have e : plsNums dim (p :: ps) = plNums dim p ++ plsNums dim ps := by simp [plsNums]
    rw [e, List.length_append, ih, plNums_wd dim d0 d1, List.length_cons, Nat.succ_mul]
    omega
theorem wd_pos (q : Int) : 2 ≤ wd q := by unfold wd; omega

theorem ok_forceT (dim : Int) (d0 : 0 ≤ dim) (d1 : dim ≤ 3) : ∀ {t : Gm}, OkT t → OkT (forceT dim t) := by
  intro t h
  induction h with
  | @mk k d ns ks h0 h1 hn hm hk ih =>
    rw [forceT_mk]
    refine .mk d0 d1 ?_ (by rw [List.length_map]; exact hm) (fun t ht => ?_)
    · rw [plsNums_wd dim d0 d1, ptsN_length, Nat.mul_div_cancel _ (by have := wd_pos dim; omega)]
      exact hn
    · obtain ⟨u, hu, rfl⟩ := List.mem_map.1 ht
      exact ih u hu

theorem fold_range : ∀ (ms : List Gm) (a : Int), 0 ≤ a → a ≤ 3 → (∀ m ∈ ms, 0 ≤ m.d ∧ m.d ≤ 3) → 0 ≤ ms.foldl (fun a m => dand a m.d) a ∧ ms.foldl (fun a m => dand a m.d) a ≤ 3
  | [], a, h0, h1, _ => ⟨h0, h1⟩
  | m :: ms, a, h0, h1, h => by
    obtain ⟨g0, g1⟩ := h m (List.mem_cons_self ..)
    obtain ⟨k0, k1⟩ := dand_range h0 h1 g0 g1
    exact fold_range ms _ k0 k1 (fun m hm => h m (List.mem_cons_of_mem _ hm))

theorem sz_mem : ∀ {ks : List Gm} {t : Gm}, t ∈ ks → t.sz ≤ Gm.szs ks := by
  intro ks t h
  obtain ⟨q, hq⟩ := List.mem_iff_getElem?.1 h
  exact sz_kid hq

theorem forceT_d (dim : Int) (t : Gm) : (forceT dim t).d = dim := by
  cases t
  rw [forceT_mk]
  rfl

theorem ok_newT : ∀ t : Gm, t.sz ≤ 100000 → 0 ≤ (newT t).d ∧ (newT t).d ≤ 3 ∧ OkT (newT t)
  | .mk k d ns ks => fun hs => by
    unfold Gm.sz at hs
    have hl := szs_len ks
    have ih : ∀ t ∈ ks, 0 ≤ (newT t).d ∧ (newT t).d ≤ 3 ∧ OkT (newT t) := fun t ht => ok_newT t (by have := sz_mem ht; omega)
    have q0 : 0 ≤ d % 4 := by omega
    have q1 : d % 4 ≤ 3 := by omega
    rw [newT_mk]
    split
    · refine ⟨q0, q1, .mk q0 q1 ?_ (by simp) (by simp)⟩
      refine Nat.le_trans (Nat.div_le_self _ _) ?_
      rw [List.length_take]
      omega
    · have hml : ((ks.map newT).filter (keepT (kindN k))).length ≤ 100000 := Nat.le_trans (List.length_filter_le _ _) (by rw [List.length_map]; omega)
      have hall : ∀ m ∈ (ks.map newT).filter (keepT (kindN k)), 0 ≤ m.d ∧ m.d ≤ 3 ∧ OkT m := fun m hm => by
        obtain ⟨u, hu, rfl⟩ := List.mem_map.1 (List.mem_filter.1 hm).1
        exact ih u hu
      generalize (ks.map newT).filter (keepT (kindN k)) = ms at *
      unfold partsT
      split
      · exact ⟨q0, q1, .mk q0 q1 (by simp) (by simp) (by simp)⟩
      · obtain ⟨f0, f1⟩ := fold_range ms 3 (by omega) (by omega) (fun m hm => ⟨(hall m hm).1, (hall m hm).2.1⟩)
        rw [forceT_d]
        exact ⟨f0, f1, ok_forceT _ f0 f1 (.mk q0 q1 (by simp) hml (fun m hm => (hall m hm).2.2))⟩
  termination_by t => SizeOf.sizeOf t
  decreasing_by (have := List.sizeOf_lt_of_mem ht; simp; omega)

theorem cutN_eq (d : Int) (n : Nat) : cutN d n = cutL 1 (d % 4) n := by
  have hw := wd_pos (d % 4)
  unfold cutN cutL
  rw [if_pos rfl]
  split
  · rename_i h
    have h1 : 1 ≤ n / wd (d % 4) := (Nat.le_div_iff_mul_le (by omega)).2 (by omega)
    rw [Nat.min_eq_right h1, Nat.one_mul]
  · rename_i h
    rw [Nat.div_eq_of_lt (by omega), Nat.min_eq_left (by omega), Nat.zero_mul]

theorem gm_leaf {w w' : World} {k q : Int} {v : Value} {ns : List Nat} (hb : ∀ b ∈ ns, b < 18446744073709551616) (h : Rw 45 w w' none v (flV ns)) : GmOn w' (fun b => w.heap.size ≤ b) [.int .i64 k, .int .i64 q, v, .slice none 0 0] (.mk k q ns []) := by
  have ho := h.own
  rw [flV_length] at ho
  refine GmOn.made hb ho (fun b hb => ?_) (KRow.nil _ _)
  rcases h.place with e | ⟨g, e, hl⟩
  · rw [e] at hb; cases hb
  · rw [e] at hb; injection hb with hb; omega

theorem New_any {w0 : World} {B : Nat} {v : Value} {t : Gm} (h : GmAt w0 B v t) : t.sz ≤ 100000 → ∀ W : World, Below B w0 W → B ≤ W.heap.size →
    Calls Tryz.prog 13 #[v] W fun e w' => ∃ cs' : List Value, e = .returned (.agg cs'.toArray) ∧ GmOn w' (fun b => W.heap.size ≤ b) cs' (newT t) ∧ Below W.heap.size W w' := by
  induction h with
  | @mk k d ns ks n m A K c c' us en em hn hb hcap hk hs ih =>
    intro hsz W hbl hB
    unfold Gm.sz at hsz
    have hl := szs_len ks
    rw [newT_mk]
    by_cases h1 : kindN k = 1
    · obtain rfl : k = 1 := by unfold kindN at h1; split at h1 <;> omega
      rw [if_pos (.inl h1), h1]
      refine (New_point d W (hn.below hbl) hcap hB (by omega)).mono ?_
      rintro e w' ⟨v, rfl, hr⟩
      rw [en, ← cutN_eq]
      exact ⟨[_, _, v, _], rfl, gm_leaf (fun b hb' => hb b (List.mem_of_mem_take hb')) hr, hr.below0⟩
    · by_cases h2 : kindN k = 2
      · obtain rfl : k = 2 := by unfold kindN at h2; split at h2 <;> omega
        rw [if_pos (.inr h2), h2]
        refine (New_line d W (hn.below hbl) hcap hB (by omega)).mono ?_
        rintro e w' ⟨v, rfl, hr⟩
        have e2 : cutL 2 (d % 4) ns.length = n / wd (d % 4) * wd (d % 4) := by unfold cutL; rw [if_neg (by omega), en]
        rw [e2]
        exact ⟨[_, _, v, _], rfl, gm_leaf (fun b hb' => hb b (List.mem_of_mem_take hb')) hr, hr.below0⟩
      · rw [if_neg (by rintro (h | h); exact h1 h; exact h2 h)]
        refine New_kids (_ns := ns) em (by omega) hk hs (fun i t ht W hb' hB' => ih i t ht (by have := sz_kid ht; omega) W hb' hB') (fun t ht => ok_newT t (by have := sz_mem ht; omega)) h1 h2 W hbl hB

end Go.Proofs.YtpbcfgehmalppaaGreatDoor
