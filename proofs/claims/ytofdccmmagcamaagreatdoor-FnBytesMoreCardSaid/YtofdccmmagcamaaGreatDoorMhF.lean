import Derived.Test.YtofdccmmagcamaaGreatDoorMhD
import Derived.Test.YtofdccmmagcamaaGreatDoorPgC
/- spec.New at leaves, and at any plain data. -/
set_option maxHeartbeats 8000000
set_option linter.unusedSimpArgs false
set_option linter.unusedVariables false
namespace Go.Proofs.YtofdccmmagcamaaGreatDoor
open Go.RowKit

attribute [local go_sem] run_store_float

theorem Leaf2_any (w : World) : Calls Tryz.prog 33 #[.int .i64 2] w fun e w' => e = .returned (.bool true) ∧ w' = w := by
  go_enter Tryz.func33, Tryz.ntmps33
  go_wp2
  go_ret
  exact ⟨rfl, rfl⟩

set_option maxRecDepth 100000 in
theorem New_line {B : Nat} {A K : Option Addr} {n m c c' : Nat} {ns : List Nat} (d : Int) (w : World) (h : Reads w B 1 A n (flV ns)) (hc : n ≤ c) (hB : B ≤ w.heap.size) (hn : n ≤ 1000000000) :
    Calls Tryz.prog 12 #[.agg #[.int .i64 2, .int .i64 d, .slice A n c, .slice K m c']] w fun e w' =>
      ∃ v, e = .returned (.agg #[.int .i64 2, .int .i64 (d % 4), v, .slice none 0 0]) ∧ Rw 73 w w' none v (flV (ns.take (n / wd (d % 4) * wd (d % 4)))) := by
  have hnl : ns.length = n := by have := h.1; rw [flV_length] at this; omega
  have q0 : 0 ≤ d % 4 := by omega
  have q1 : d % 4 ≤ 3 := by omega
  have hwp : 2 ≤ wd (d % 4) ∧ wd (d % 4) ≤ 4 := by rcases wd_cases (d % 4) q0 q1 with ⟨_, h⟩ | ⟨_, h⟩ | ⟨_, h⟩ | ⟨_, h⟩ <;> rw [h] <;> omega
  have h3 := i64_and3 d
  have hwd := Width_any (d % 4) q0 q1
  generalize d % 4 = q at *
  have hle : n / wd q ≤ n := Nat.div_le_self _ _
  have hcv : (n : Int) / (wd q : Int) = ((n / wd q : Nat) : Int) := (Int.natCast_ediv n (wd q)).symm
  have hne0 : ((wd q : Int) == 0) = false := by rw [beq_eq_false_iff_ne]; omega
  generalize wd q = W at *
  have hb0 : 0 ≤ (n : Int) / (W : Int) ∧ (n : Int) / (W : Int) ≤ 1000000000 := by rw [hcv]; exact ⟨Int.natCast_nonneg _, by omega⟩
  obtain ⟨i0, hi0, hz0, hz1, hz2⟩ := info_parts info_f64
  have H := Hd h
  have HNL := Hd hnl
  have HWD := Hd hwd
  have HCV := Hd hcv
  clear h hnl hwd hcv
  go_enter Tryz.func12, Tryz.ntmps12
  go_wp2_with fail
  refine (Leaf2_any _).mono ?_
  rintro e w1 ⟨rfl, rfl⟩
  go_wp2
  go_quiet ((go_at_call 34; exact Calls.quiet_of_same (HWD.out _)))
  go_wp2
  obtain ⟨rr, hrr, hr1, hkn, hmul⟩ : ∃ rr : Nat, (n : Int) / (W : Int) = (rr : Int) ∧ rr ≤ n ∧ n / W * W ≤ n ∧ (rr : Int) * (W : Int) = ((n / W * W : Nat) : Int) :=
    ⟨n / W, HCV.out, Nat.div_le_self _ _, Nat.div_mul_le_self _ _, by rw [Int.natCast_mul]⟩
  rw [hrr]
  generalize hkk : n / W * W = kk at *
  have hwk : IntKind.i64.wrap (kk : Int) = (kk : Int) := by rw [IntKind.wrap_i64]; omega
  have hkc : kk ≤ c := by omega
  have HKK := Hd hkk
  have HTK := Hd (H.out.take hkn)
  clear hkk hrr
  have hb1 := ((((Below.refl w.heap.size w).alloc (Nat.le_refl _) (.cells #[.int .i64 2, .int .i64 d, .slice A n c, .slice K m c'] 25)).alloc (by simp) (.cells #[.int .i64 0, .int .i64 0, .slice none 0 0, .slice none 0 0] 25)).alloc (by simp; omega) (.cells #[.int .i64 2, .int .i64 q, .slice none 0 0, .slice none 0 0] 25))
  have HB1 := Hd hb1
  clear hb1
  refine wp_region_still_tail 10 (by kernel_rfl) (by kernel_rfl) ?_
  simp only [List.take_succ_cons, List.take_zero, List.drop_succ_cons, List.drop_zero]
  change wpStill _ _ (World.drew _) _ _ _
  repeat still_step
  still_call (HWD.out _)
  still_step
  still_step
  refine wpStill_nil ?_
  change wpList _ _ _ _ _ (World.drew _)
  refine wpList_append_any _ rfl _ _ _ rfl 0 73 i0 (.float .f64 0) 1 8 Tryz.underlying22 hi0 hz0 hz1 hz2 rfl (by decide) _ 0 [] rfl (World.ownsRow_nil _ _ _ _) B _ kk _ (flV (ns.take kk)) rfl (by exact HTK.out.below (Below.drew (below_drewN (HB1.out.mono hB) _))) (flV_one _) (by simp only [maxLen]; omega) (by omega) (Nat.zero_le _) ?_
  intro v1 W1 ho hg hp
  have hg' : World.grownBy _ W1 none := hg
  have b2 := Blk.grown (Blk.drew (Blk.drewN (Blk.new ((w.alloc (.cells #[.int .i64 2, .int .i64 d, .slice A n c, .slice K m c'] 25)).alloc (.cells #[.int .i64 0, .int .i64 0, .slice none 0 0, .slice none 0 0] 25)) 25 #[.int .i64 2, .int .i64 q, .slice none 0 0, .slice none 0 0]) _)) hg' (by simp)
  have b1 := Blk.grown (Blk.drew (Blk.drewN (Blk.alloc (Blk.new (w.alloc (.cells #[.int .i64 2, .int .i64 d, .slice A n c, .slice K m c'] 25)) 25 #[.int .i64 0, .int .i64 0, .slice none 0 0, .slice none 0 0]) _) _)) hg' (by simp)
  rw [World.size_alloc, World.size_alloc] at b2
  rw [World.size_alloc] at b1
  have hbw : Below w.heap.size w W1 := (Below.drew (below_drewN HB1.out _)).trans ⟨hg'.os, hg'.tape, hg'.output, hg'.size, fun i hi => hg'.block i (Nat.lt_of_lt_of_le hi (Below.drew (below_drewN HB1.out _)).size) (by simp)⟩
  obtain ⟨A1, c1, rfl⟩ := own_shape ho
  have hp' : (Value.slice A1 kk c1).ownBlock = none ∨ ∃ g, (Value.slice A1 kk c1).ownBlock = some g ∧ w.heap.size + 3 ≤ g := hp.imp (fun e => e) (fun e => ⟨_, e, by simp⟩)
  have hne1 : (Value.slice A1 kk c1).ownBlock = none ∨ (Value.slice A1 kk c1).ownBlock ≠ some (w.heap.size + 1) := hp'.imp id fun ⟨g, e, hl⟩ he => by rw [e] at he; injection he with he; omega
  have hne2 : (Value.slice A1 kk c1).ownBlock = none ∨ (Value.slice A1 kk c1).ownBlock ≠ some (w.heap.size + 1 + 1) := hp'.imp id fun ⟨g, e, hl⟩ he => by rw [e] at he; injection he with he; omega
  have hpl : (Value.slice A1 kk c1).ownBlock = none ∨ ∃ g, (Value.slice A1 kk c1).ownBlock = some g ∧ w.heap.size ≤ g := hp'.imp id fun ⟨g, e, hl⟩ => ⟨g, e, by omega⟩
  rw [Nat.zero_add, List.nil_append] at ho
  have u2 : (W1.setCell ⟨w.heap.size + 1 + 1, 2, none⟩ (.slice A1 kk c1)).cell? ⟨w.heap.size + 1 + 1, 2, none⟩ = some (.slice A1 kk c1) := by simpa using (b2.set_ 2 (.slice A1 kk c1)).cell 2
  obtain ⟨t0, t1, t2, t3⟩ := four_cells (b1.far (p := ⟨w.heap.size + 1 + 1, 2, none⟩) (by simp) (.slice A1 kk c1)) (.int .i64 2) (.int .i64 q) (.slice A1 kk c1) (.slice none 0 0)
  have r0 := b2.cell 0
  have r1 := b2.cell 1
  have r2 := b2.cell 2
  have r3 := b2.cell 3
  have s0 := b1.cell 0
  have s1 := b1.cell 1
  have s2 := b1.cell 2
  have s3 := b1.cell 3
  have z2 := b2.frozen 2
  have y0 := b1.frozen 0
  have y1 := b1.frozen 1
  have y2 := b1.frozen 2
  have y3 := b1.frozen 3
  simp at r0 r1 r2 r3 s0 s1 s2 s3
  have HO := Hd ho
  have HBW := Hd hbw
  have HPL := Hd hpl
  have HN1 := Hd hne1
  have HN2 := Hd hne2
  clear ho hbw hpl hne1 hne2 hp hp' hg hg' b1 b2
  go_wp2
  refine bodyPost_ret (by simp [results, Tryz.results12, go_sem, t0, t1, t2, t3]; try rfl) rfl ?_
  have hb := below_setCell' (below_setCell' (below_setCell' (below_setCell' (below_setCell' HBW.out (p := ⟨w.heap.size + 1 + 1, 2, none⟩) (by show w.heap.size ≤ w.heap.size + 1 + 1; omega) (.slice A1 kk c1)) (p := ⟨w.heap.size + 1, 0, none⟩) (Nat.le_succ _) (.int .i64 2)) (p := ⟨w.heap.size + 1, 1, none⟩) (Nat.le_succ _) (.int .i64 q)) (p := ⟨w.heap.size + 1, 2, none⟩) (Nat.le_succ _) (.slice A1 kk c1)) (p := ⟨w.heap.size + 1, 3, none⟩) (Nat.le_succ _) (.slice none 0 0)
  refine ⟨_, rfl, ?_⟩
  rw [HKK.out]
  have hfk : (flV (ns.take kk)).length = kk := by rw [flV_length, List.length_take, HNL.out]; omega
  refine ⟨?_, only_of_below hb none, HPL.out⟩
  rw [hfk]
  exact own_set (own_set (own_set (own_set (own_set HO.out HN2.out _) HN1.out _) HN1.out _) HN1.out _) HN1.out _

end Go.Proofs.YtofdccmmagcamaaGreatDoor

/- spec.New at any plain data; what New makes is a good geometry. -/
set_option maxHeartbeats 8000000
set_option linter.unusedSimpArgs false
set_option linter.unusedVariables false
namespace Go.Proofs.YtofdccmmagcamaaGreatDoor
open Go.RowKit

theorem plNums_wd (dim : Int) (d0 : 0 ≤ dim) (d1 : dim ≤ 3) (p : Pl) : (plNums dim p).length = wd dim := by
  have h : dim = 0 ∨ dim = 1 ∨ dim = 2 ∨ dim = 3 := by omega
  rcases h with rfl | rfl | rfl | rfl <;> rfl
theorem plsNums_wd (dim : Int) (d0 : 0 ≤ dim) (d1 : dim ≤ 3) (ps : List Pl) : (plsNums dim ps).length = ps.length * wd dim := by
  induction ps with
  | nil => simp [plsNums]
  | cons p ps ih =>
    have e : plsNums dim (p :: ps) = plNums dim p ++ plsNums dim ps := by simp [plsNums]
    rw [e, List.length_append, ih, plNums_wd dim d0 d1, List.length_cons, Nat.succ_mul]
    omega
theorem wd_pos (q : Int) : 2 ≤ wd q := by unfold wd; omega

theorem ok_forceT (dim : Int) (d0 : 0 ≤ dim) (d1 : dim ≤ 3) : ∀ {t : Gm}, OkT t → OkT (forceT dim t) := by
  intro t h
  induction h with
  | @mk k d ns ks h0 h1 hn hm hk ih =>
    rw [forceT_mk]
    refine .mk d0 d1 ?_ (by rw [List.length_map]; exact hm) (fun t ht => ?_)
    · rw [plsNums_wd dim d0 d1, ptsN_length, Nat.mul_div_cancel _ (by have := wd_pos dim; omega)]
      exact hn
    · obtain ⟨u, hu, rfl⟩ := List.mem_map.1 ht
      exact ih u hu

theorem fold_range : ∀ (ms : List Gm) (a : Int), 0 ≤ a → a ≤ 3 → (∀ m ∈ ms, 0 ≤ m.d ∧ m.d ≤ 3) → 0 ≤ ms.foldl (fun a m => dand a m.d) a ∧ ms.foldl (fun a m => dand a m.d) a ≤ 3
  | [], a, h0, h1, _ => ⟨h0, h1⟩
  | m :: ms, a, h0, h1, h => by
    obtain ⟨g0, g1⟩ := h m (List.mem_cons_self ..)
    obtain ⟨k0, k1⟩ := dand_range h0 h1 g0 g1
    exact fold_range ms _ k0 k1 (fun m hm => h m (List.mem_cons_of_mem _ hm))

theorem sz_mem : ∀ {ks : List Gm} {t : Gm}, t ∈ ks → t.sz ≤ Gm.szs ks := by
  intro ks t h
  obtain ⟨q, hq⟩ := List.mem_iff_getElem?.1 h
  exact sz_kid hq

theorem forceT_d (dim : Int) (t : Gm) : (forceT dim t).d = dim := by
  cases t
  rw [forceT_mk]
  rfl

theorem ok_newT : ∀ t : Gm, t.sz ≤ 100000 → 0 ≤ (newT t).d ∧ (newT t).d ≤ 3 ∧ OkT (newT t)
  | .mk k d ns ks => fun hs => by
    unfold Gm.sz at hs
    have hl := szs_len ks
    have ih : ∀ t ∈ ks, 0 ≤ (newT t).d ∧ (newT t).d ≤ 3 ∧ OkT (newT t) := fun t ht => ok_newT t (by have := sz_mem ht; omega)
    have q0 : 0 ≤ d % 4 := by omega
    have q1 : d % 4 ≤ 3 := by omega
    rw [newT_mk]
    split
    · refine ⟨q0, q1, .mk q0 q1 ?_ (by simp) (by simp)⟩
      refine Nat.le_trans (Nat.div_le_self _ _) ?_
      rw [List.length_take]
      omega
    · have hml : ((ks.map newT).filter (keepT (kindN k))).length ≤ 100000 := Nat.le_trans (List.length_filter_le _ _) (by rw [List.length_map]; omega)
      have hall : ∀ m ∈ (ks.map newT).filter (keepT (kindN k)), 0 ≤ m.d ∧ m.d ≤ 3 ∧ OkT m := fun m hm => by
        obtain ⟨u, hu, rfl⟩ := List.mem_map.1 (List.mem_filter.1 hm).1
        exact ih u hu
      generalize (ks.map newT).filter (keepT (kindN k)) = ms at *
      unfold partsT
      split
      · exact ⟨q0, q1, .mk q0 q1 (by simp) (by simp) (by simp)⟩
      · obtain ⟨f0, f1⟩ := fold_range ms 3 (by omega) (by omega) (fun m hm => ⟨(hall m hm).1, (hall m hm).2.1⟩)
        rw [forceT_d]
        exact ⟨f0, f1, ok_forceT _ f0 f1 (.mk q0 q1 (by simp) hml (fun m hm => (hall m hm).2.2))⟩
  termination_by t => SizeOf.sizeOf t
  decreasing_by (have := List.sizeOf_lt_of_mem ht; simp; omega)

theorem cutN_eq (d : Int) (n : Nat) : cutN d n = cutL 1 (d % 4) n := by
  have hw := wd_pos (d % 4)
  unfold cutN cutL
  rw [if_pos rfl]
  split
  · rename_i h
    have h1 : 1 ≤ n / wd (d % 4) := (Nat.le_div_iff_mul_le (by omega)).2 (by omega)
    rw [Nat.min_eq_right h1, Nat.one_mul]
  · rename_i h
    rw [Nat.div_eq_of_lt (by omega), Nat.min_eq_left (by omega), Nat.zero_mul]

theorem gm_leaf {w w' : World} {k q : Int} {v : Value} {ns : List Nat} (hb : ∀ b ∈ ns, b < 18446744073709551616) (h : Rw 73 w w' none v (flV ns)) : GmOn w' (fun b => w.heap.size ≤ b) [.int .i64 k, .int .i64 q, v, .slice none 0 0] (.mk k q ns []) := by
  have ho := h.own
  rw [flV_length] at ho
  refine GmOn.made hb ho (fun b hb => ?_) (KRow.nil _ _)
  rcases h.place with e | ⟨g, e, hl⟩
  · rw [e] at hb; cases hb
  · rw [e] at hb; injection hb with hb; omega

theorem New_any {w0 : World} {B : Nat} {v : Value} {t : Gm} (h : GmAt w0 B v t) : t.sz ≤ 100000 → ∀ W : World, Below B w0 W → B ≤ W.heap.size →
    Calls Tryz.prog 12 #[v] W fun e w' => ∃ cs' : List Value, e = .returned (.agg cs'.toArray) ∧ GmOn w' (fun b => W.heap.size ≤ b) cs' (newT t) ∧ Below W.heap.size W w' := by
  induction h with
  | @mk k d ns ks n m A K c c' us en em hn hb hcap hk hs ih =>
    intro hsz W hbl hB
    unfold Gm.sz at hsz
    have hl := szs_len ks
    rw [newT_mk]
    by_cases h1 : kindN k = 1
    · obtain rfl : k = 1 := by unfold kindN at h1; split at h1 <;> omega
      rw [if_pos (.inl h1), h1]
      refine (New_point d W (hn.below hbl) hcap hB (by omega)).mono ?_
      rintro e w' ⟨v, rfl, hr⟩
      rw [en, ← cutN_eq]
      exact ⟨[_, _, v, _], rfl, gm_leaf (fun b hb' => hb b (List.mem_of_mem_take hb')) hr, hr.below0⟩
    · by_cases h2 : kindN k = 2
      · obtain rfl : k = 2 := by unfold kindN at h2; split at h2 <;> omega
        rw [if_pos (.inr h2), h2]
        refine (New_line d W (hn.below hbl) hcap hB (by omega)).mono ?_
        rintro e w' ⟨v, rfl, hr⟩
        have e2 : cutL 2 (d % 4) ns.length = n / wd (d % 4) * wd (d % 4) := by unfold cutL; rw [if_neg (by omega), en]
        rw [e2]
        exact ⟨[_, _, v, _], rfl, gm_leaf (fun b hb' => hb b (List.mem_of_mem_take hb')) hr, hr.below0⟩
      · rw [if_neg (by rintro (h | h); exact h1 h; exact h2 h)]
        refine New_kids (_ns := ns) em (by omega) hk hs (fun i t ht W hb' hB' => ih i t ht (by have := sz_kid ht; omega) W hb' hB') (fun t ht => ok_newT t (by have := sz_mem ht; omega)) h1 h2 W hbl hB

end Go.Proofs.YtofdccmmagcamaaGreatDoor

/- The text of a good geometry, as data: how long it is, what force leaves of its measure. -/
set_option maxHeartbeats 8000000
set_option linter.unusedSimpArgs false
set_option linter.unusedVariables false
namespace Go.Proofs.YtofdccmmagcamaaGreatDoor
open Go.RowKit

/-- Parts and places. -/
def Gm.np : Gm → Nat
  | .mk _ d ns ks => 1 + ns.length / wd d + (ks.attach.map fun x => Gm.np x.1).sum
decreasing_by all_goals (have := List.sizeOf_lt_of_mem x.2; simp; omega)
theorem np_mk (k d : Int) (ns : List Nat) (ks : List Gm) : (Gm.mk k d ns ks).np = 1 + ns.length / wd d + (ks.map Gm.np).sum := by
  rw [Gm.np]
  congr 2
  simp

/-- All numbers are bits. -/
inductive NumT : Gm → Prop
  | mk {k d : Int} {ns : List Nat} {ks : List Gm} (hb : ∀ b ∈ ns, b < 18446744073709551616) (hk : ∀ t ∈ ks, NumT t) : NumT (.mk k d ns ks)
theorem sum_le {α : Type} (f g : α → Nat) : ∀ l : List α, (∀ x ∈ l, f x ≤ g x) → (l.map f).sum ≤ (l.map g).sum
  | [], _ => by simp
  | a :: l, h => by
    have := sum_le f g l (fun x hx => h x (List.mem_cons_of_mem _ hx))
    have := h a (List.mem_cons_self ..)
    simp only [List.map_cons, List.sum_cons]
    omega
theorem sum_mul {α : Type} (f : α → Nat) (c : Nat) : ∀ l : List α, (l.map fun x => c * f x).sum = c * (l.map f).sum
  | [] => by simp
  | a :: l => by simp only [List.map_cons, List.sum_cons, sum_mul f c l, Nat.mul_add]

theorem sum_filter {α : Type} (f : α → Nat) (q : α → Bool) : ∀ l : List α, ((l.filter q).map f).sum ≤ (l.map f).sum
  | [] => by simp
  | a :: l => by
    have := sum_filter f q l
    rw [List.filter_cons]
    split <;> simp only [List.map_cons, List.sum_cons] <;> omega

theorem np_mem {ks : List Gm} {t : Gm} (h : t ∈ ks) : t.np ≤ (ks.map Gm.np).sum := by
  induction ks with
  | nil => cases h
  | cons a ks ih =>
    simp only [List.map_cons, List.sum_cons]
    rcases List.mem_cons.1 h with rfl | h
    · omega
    · have := ih h; omega

theorem np_forceT (dim : Int) (d0 : 0 ≤ dim) (d1 : dim ≤ 3) {t : Gm} (h : OkT t) : (forceT dim t).np = t.np := by
  induction h with
  | @mk k d ns ks h0 h1 hn hm hk ih =>
    rw [forceT_mk, np_mk, np_mk, plsNums_wd dim d0 d1, ptsN_length, Nat.mul_div_cancel _ (by have := wd_pos dim; omega), List.map_map]
    congr 2
    exact List.map_congr_left fun t ht => ih t ht

theorem np_newT : ∀ t : Gm, t.sz ≤ 100000 → (newT t).np ≤ t.sz
  | .mk k d ns ks => fun hs => by
    have hok := ok_newT (.mk k d ns ks) hs
    unfold Gm.sz at hs
    have hl := szs_len ks
    have ih : ∀ t ∈ ks, (newT t).np ≤ t.sz := fun t ht => np_newT t (by have := sz_mem ht; omega)
    have q0 : 0 ≤ d % 4 := by omega
    have q1 : d % 4 ≤ 3 := by omega
    have hks : (ks.map Gm.sz).sum = Gm.szs ks := by
      clear ih hl hs hok
      induction ks with
      | nil => rfl
      | cons a ks ih => simp only [List.map_cons, List.sum_cons, Gm.szs, ih]
    have hmi : ∀ m ∈ (ks.map newT).filter (keepT (kindN k)), 0 ≤ m.d ∧ m.d ≤ 3 ∧ OkT m := fun m hm => by
      obtain ⟨u, hu, rfl⟩ := List.mem_map.1 (List.mem_filter.1 hm).1
      exact ok_newT u (by have := sz_mem hu; omega)
    rw [newT_mk]
    unfold Gm.sz
    split
    · rw [np_mk]
      have : (ns.take (cutL (kindN k) (d % 4) ns.length)).length / wd (d % 4) ≤ ns.length := Nat.le_trans (Nat.div_le_self _ _) (by rw [List.length_take]; omega)
      have e : (([] : List Gm).map Gm.np).sum = 0 := rfl
      rw [e]
      omega
    · have hml : ((ks.map newT).filter (keepT (kindN k))).length ≤ 100000 := Nat.le_trans (List.length_filter_le _ _) (by rw [List.length_map]; omega)
      have hms : (((ks.map newT).filter (keepT (kindN k))).map Gm.np).sum ≤ Gm.szs ks := by
        refine Nat.le_trans (sum_filter _ _ _) ?_
        rw [List.map_map, ← hks]
        exact sum_le _ _ ks (fun t ht => ih t ht)
      generalize (ks.map newT).filter (keepT (kindN k)) = ms at *
      have e0 : ([] : List Nat).length / wd (d % 4) = 0 := by simp
      unfold partsT
      split
      · rw [np_mk, e0]
        have e : (([] : List Gm).map Gm.np).sum = 0 := rfl
        rw [e]
        omega
      · obtain ⟨f0, f1⟩ := fold_range ms 3 (by omega) (by omega) (fun m hm => ⟨(hmi m hm).1, (hmi m hm).2.1⟩)
        rw [np_forceT _ f0 f1 (.mk q0 q1 (by simp) hml (fun m hm => (hmi m hm).2.2)), np_mk, e0]
        omega
  termination_by t => SizeOf.sizeOf t
  decreasing_by (have := List.sizeOf_lt_of_mem ht; simp; omega)

end Go.Proofs.YtofdccmmagcamaaGreatDoor
