import Derived.Test.YtpbcfgehmalppaaGreatDoorMgD
import Derived.Test.YtpbcfgehmalppaaGreatDoorWLast
import Derived.Test.YtpbcfgehmalppaaGreatDoorJsM
import Derived.Test.YtpbcfgehmalppaaGreatDoorFtK
import Derived.Test.YtpbcfgehmalppaaGreatDoorTie
import Derived.Test.YtpbcfgehmalppaaGreatDoorCards
import Derived.WalkKit
import Derived.ProofKit
import Derived.OpenShut
import Derived.ChangeOld
import Derived.Below
import Derived.SizedLaws
import Derived.Carry
import Derived.Lay
import Derived.LaidOnce
import Derived.SevenTiedAt
import Derived.Lib.SmallJoins
import Derived.Laws.Cover2
/- The law FnTextAppend: whatever stands before and whatever the plain data, it returns true and turns nothing that was there. -/
namespace Go.Proofs.YtpbcfgehmalppaaGreatDoor
open Go.RowKit Go.Proofs.YtpbcfgehmalppaaGreatDoorW.PrintLast

/-- A fact that is known from here on. -/
theorem swap_ {P : Program} {md : Region.Mode} {ops : Array Oper} {Q : Exit → Act → World → Prop} {S S' : World → Prop} (hi : ∀ w, S' w → S w) :
    ∀ (fuel : Nat) (l : Array Bool) (a : Act) (w : World), S' w → wpAnyLast P md ops Q S' [] fuel l a w → wpAnyLast P md ops Q S [] fuel l a w
  | 0, _, _, _, _, h => h
  | fuel + 1, _, _, _, hS, h => ⟨h.1, fun i hj => wpOp_mono (fun a' w' h' => ⟨fun _ _ => hi _ (h'.1 (by simp) hS), swap_ hi fuel _ a' w' (h'.1 (by simp) hS) h'.2⟩) (h.2 i hj)⟩

theorem reads_string {w : World} {B : Nat} {Ab : Option Addr} {nb cb : Nat} {bs : List Int} (h : Reads w B 1 Ab nb (bytesV bs)) :
    (convert 30 9 (.slice Ab nb cb)).run Tryz.prog w = .ok (.string (strOfNums bs)) w := by
  have hl : bs.length = nb := by have := h.1; rw [bytesV_length] at this; omega
  cases Ab with
  | none =>
    obtain rfl : nb = 0 := by
      rcases Nat.eq_zero_or_pos nb with h0 | h0
      · exact h0
      · obtain ⟨ad, e, _⟩ := h.2 h0
        cases e
    obtain rfl : bs = [] := List.eq_nil_of_length_eq_zero hl
    exact run_convert_bytes_nil w 30 5 Tryz.underlying30 Tryz.underlying5 0 cb 9 Tryz.underlying9
  | some ad =>
    have hc : ∀ (j : Nat) (u : Value), (bytesV bs)[j]? = some u → w.cell? (ad.add j) = some u := by
      intro j u hj
      have hp : 0 < nb := by
        rcases Nat.eq_zero_or_pos nb with h0 | h0
        · rw [h0] at hl
          obtain rfl : bs = [] := List.eq_nil_of_length_eq_zero hl
          simp [bytesV] at hj
        · exact h0
      obtain ⟨ad', e, _, hc⟩ := h.2 hp
      cases e
      exact hc j u hj
    have hld : (loadCells ad nb).run Tryz.prog w = .ok (bs.map (Value.int .u8)).toArray w := by
      have := run_loadCells_list (P := Tryz.prog) w ad (bytesV bs) hc
      rw [bytesV_length, hl] at this
      exact this
    rw [run_convert_bytes_string w 30 9 5 (some ad) nb cb Tryz.underlying30 Tryz.underlying5 Tryz.underlying9, run_bytesToString w ad nb cb bs hld, foldl_push_bytes]
    simp [strOfNums, ByteArray.empty, ByteArray.emptyWithCapacity]
    rfl

theorem own_cat {W : World} {v : Value} {a b : List Int} (h : Own W v (a ++ b)) : ¬ 9223372036854775807 < (strOfNums a).size + (strOfNums b).size := by
  rw [strOfNums_size, strOfNums_size, ← List.length_append]
  rcases h.2 with ⟨_, hn⟩ | ⟨g, cap, cur, _, _, _, hnc, hcm, _⟩
  · omega
  · simp only [maxLen] at hcm
    omega

set_option maxHeartbeats 8000000 in
set_option maxRecDepth 100000 in
theorem FnTextAppend_law {B : Nat} {k d : Int} {A KA Ab : Option Addr} {n m c c' nb cb : Nat} {t : Gm} {bs : List Int} (hi lo : Nat → Int) (w : World) (ht : FtTabs w hi lo) (h : GmAt w B (.agg #[.int .i64 k, .int .i64 d, .slice A n c, .slice KA m c']) t) (hbs : Reads w B 1 Ab nb (bytesV bs)) (hB : B ≤ w.heap.size) :
    Calls Tryz.prog 7 #[.slice Ab nb cb, .agg #[.int .i64 k, .int .i64 d, .slice A n c, .slice KA m c']] w fun e w' => e = .returned (.bool true) ∧ Below w.heap.size w w' := by
  have hg0 : Below w.heap.size w (w.alloc (.cells #[.int .i64 k, .int .i64 d, .slice A n c, .slice KA m c'] 25)) := (Below.refl _ _).alloc (Nat.le_refl _) _
  have hbox := Blk.new w 25 #[.int .i64 k, .int .i64 d, .slice A n c, .slice KA m c']
  have HX := Lib.hid hbox
  have H0 := Lib.hid hg0
  have HT := Lib.hid ht
  have HGM := Lib.hid h
  have HBS := Lib.hid hbs
  clear hbox hg0 ht h hbs
  by_cases hn : 2147483647 < nb
  · go_enter Tryz.func7, Tryz.ntmps7
    go_wp2
    go_ret
    exact ⟨rfl, H0.out⟩
  go_enter Tryz.func7, Tryz.ntmps7
  go_wp2_with fail
  refine (zzFits2_any k d A KA n m c c' _).mono ?_
  rintro e w1 ⟨b, rfl, h1⟩
  have H1 := Lib.hid (H0.out.trans (h1.mono (by simp)))
  have X1 := Lib.hid (HX.out.below h1 (by simp))
  clear h1
  cases b
  · go_wp2
    go_ret
    exact ⟨rfl, H1.out⟩
  have r0 := X1.out.cell 0
  have r1 := X1.out.cell 1
  have r2 := X1.out.cell 2
  have r3 := X1.out.cell 3
  simp at r0 r1 r2 r3
  have hgs := gSmall_one ((HGM.out.keepB (H1.out.mono hB)).keepB ((Below.refl B w1).alloc (Nat.le_trans hB H1.out.size) (.cells #[.int .i64 k, .int .i64 d, .slice A n c, .slice KA m c'] 25))) (Blk.new w1 25 #[.int .i64 k, .int .i64 d, .slice A n c, .slice KA m c']) (by rw [World.size_alloc]; exact Nat.le_trans hB (Nat.le_succ_of_le H1.out.size))
  have HGS := Lib.hid hgs
  clear hgs
  by_cases hn2 : 2000 < nb
  · go_wp2_with fail
    refine HGS.out.mono ?_
    rintro e w2 ⟨b, rfl, -, h2⟩
    have H2 := Lib.hid ((H1.out.alloc H1.out.size _).trans (h2.mono (by rw [World.size_alloc]; exact Nat.le_succ_of_le H1.out.size)))
    clear h2
    cases b
    · go_wp2
      go_ret
      exact ⟨rfl, H2.out⟩
    · go_wp2
      go_ret
      exact ⟨rfl, H2.out⟩
  go_wp2_with fail
  refine HGS.out.mono ?_
  rintro e w2 ⟨b, rfl, hsz, h2⟩
  have H2 := Lib.hid ((H1.out.alloc H1.out.size _).trans (h2.mono (by rw [World.size_alloc]; exact Nat.le_succ_of_le H1.out.size)))
  have X2 := Lib.hid ((X1.out.alloc _).below h2 (by rw [World.size_alloc]; exact Nat.lt_succ_of_lt X1.out.lt))
  clear h2 HGS r0 r1 r2 r3
  cases b
  · go_wp2
    go_ret
    exact ⟨rfl, H2.out⟩
  replace hsz := hsz rfl
  have hcv : ∀ W : World, Below w.heap.size w W → Sem.run Tryz.prog (convert 30 9 (.slice Ab nb cb)) W = Result.ok (Value.string (strOfNums bs)) W := fun W hb => reads_string (HBS.out.below (hb.mono hB))
  have hwr : ∀ W : World, Below w.heap.size w W → Calls Tryz.prog 20 #[.agg #[.int .i64 k, .int .i64 d, .slice A n c, .slice KA m c']] W fun e w' => e = .returned (.string (strOfNums (wktT hi lo (newT t)))) ∧ Below W.heap.size W w' := fun W hb =>
    WriteWKT_G hi lo HGM.out (by omega) W (hb.mono hB) (Nat.le_trans hB hb.size) (HT.out.below hb)
  have hap : ∀ W : World, Below w.heap.size w W → Calls Tryz.prog 19 #[.slice Ab nb cb, .agg #[.int .i64 k, .int .i64 d, .slice A n c, .slice KA m c']] W fun e w' => ∃ v', e = .returned v' ∧ ((¬ 9223372036854775807 < (strOfNums bs).size + (strOfNums (wktT hi lo (newT t))).size) ∧ ∀ W', Below w'.heap.size w' W' → Sem.run Tryz.prog (convert 30 9 v') W' = Result.ok (Value.string (strOfNums bs ++ strOfNums (wktT hi lo (newT t)))) W') ∧ Below W.heap.size W w' := fun W hb =>
    (AppendWKT_G hi lo HGM.out (by omega) HBS.out (by omega) W (hb.mono hB) (Nat.le_trans hB hb.size) (Nat.le_trans HT.out.siz hb.size) (HT.out.below hb)).mono fun e w' ⟨v', e1, hf⟩ =>
      ⟨v', e1, ⟨own_cat hf.own, fun W' hb' => by
        rw [strOfNums_app]
        exact own_string Tryz.underlying30 Tryz.underlying5 Tryz.underlying9 (own_keep hf.own (fun b _ hl => hb'.block b hl))⟩, below_grownBy (Below.refl _ _) (Nat.le_refl _) hf.grown (fun _ e => by cases e)⟩
  generalize wktT hi lo (newT t) = TT at hwr hap
  obtain ⟨S0, hS0⟩ : ∃ S, S = strOfNums bs := ⟨_, rfl⟩
  obtain ⟨S1, hS1⟩ : ∃ S, S = strOfNums TT := ⟨_, rfl⟩
  rw [← hS0] at hcv hap
  rw [← hS1] at hwr hap
  obtain ⟨S2, hS2⟩ : ∃ S, S = S0 ++ S1 := ⟨_, rfl⟩
  rw [← hS2] at hap
  have HCV := Lib.hid hcv
  have HWR := Lib.hid hwr
  have HAP := Lib.hid hap
  have HS2 := Lib.hid hS2
  clear hcv hwr hap hS0 hS1 hS2 hsz
  go_wp2
  have H2 := Lib.hid (Below.drew H2.out)
  have X2 := Lib.hid (Blk.drew X2.out)
  refine start_ (n := 11) (S := fun w' => w'.cell? ⟨w.heap.size, 0, none⟩ = some (.int .i64 k) ∧ w'.cell? ⟨w.heap.size, 1, none⟩ = some (.int .i64 d) ∧ w'.cell? ⟨w.heap.size, 2, none⟩ = some (.slice A n c) ∧ w'.cell? ⟨w.heap.size, 3, none⟩ = some (.slice KA m c') ∧ Sem.run Tryz.prog (convert 30 9 (.slice Ab nb cb)) w' = Result.ok (Value.string S0) w') (ds := []) #[false, false, false, false, false, false, false, false, false, false, false] (by kernel_rfl) rfl rfl ⟨(X2.out.cell 0).trans rfl, (X2.out.cell 1).trans rfl, (X2.out.cell 2).trans rfl, (X2.out.cell 3).trans rfl, HCV.out _ H2.out⟩ (fun hHeld => ?_)
  refine pure_ (i := 0) (N := some 22) (v := ?_) (a' := ?_) #[true, false, false, false, false, false, false, false, false, false, false] rfl rfl (by kernel_rfl) (fun _ _ _ h => h) (Or.inl ⟨by rfl, ?_⟩) ?_ ?_
  rotate_left
  · intro w'
    go_simp
    with_reducible rfl
  rotate_left
  · simp only [Act.put, List.setIfInBounds_toArray, List.set_cons_zero, List.set_cons_succ]
    rfl
  refine pure_ (i := 4) (N := some 26) (v := ?_) (a' := ?_) #[true, false, false, false, true, false, false, false, false, false, false] rfl rfl (by kernel_rfl) (fun _ _ _ h => h) (Or.inl ⟨by rfl, ?_⟩) ?_ ?_
  rotate_left
  · intro w'
    go_simp
    with_reducible rfl
  rotate_left
  · simp only [Act.put, List.setIfInBounds_toArray, List.set_cons_zero, List.set_cons_succ]
    rfl
  refine take_ (i := 1) (N := some 23) (v := ?_) (a' := ?_) #[true, true, false, false, true, false, false, false, false, false, false] rfl rfl (by kernel_rfl) (fun _ _ _ h => h) (Or.inl ⟨by rfl, ?_⟩) hHeld ?_ ?_
  rotate_left
  · rintro w' ⟨s0, s1, s2, s3, s4⟩
    go_simp
    with_reducible rfl
  rotate_left
  · simp only [Act.put, List.setIfInBounds_toArray, List.set_cons_zero, List.set_cons_succ]
    rfl
  refine take_ (i := 5) (N := some 27) (v := ?_) (a' := ?_) #[true, true, false, false, true, true, false, false, false, false, false] rfl rfl (by kernel_rfl) (fun _ _ _ h => h) (Or.inl ⟨by rfl, ?_⟩) hHeld ?_ ?_
  rotate_left
  · rintro w' ⟨s0, s1, s2, s3, s4⟩
    go_simp
    with_reducible rfl
  rotate_left
  · simp only [Act.put, List.setIfInBounds_toArray, List.set_cons_zero, List.set_cons_succ]
    rfl
  refine take_ (i := 6) (N := some 28) (v := ?_) (a' := ?_) #[true, true, false, false, true, true, true, false, false, false, false] rfl rfl (by kernel_rfl) (fun _ _ _ h => h) (Or.inl ⟨by rfl, ?_⟩) hHeld ?_ ?_
  rotate_left
  · rintro w' ⟨s0, s1, s2, s3, s4⟩
    go_simp
    with_reducible rfl
  rotate_left
  · simp only [Act.put, List.setIfInBounds_toArray, List.set_cons_zero, List.set_cons_succ]
    rfl
  refine one_ (i := 2) (N := some 24) #[true, true, true, false, true, true, true, false, false, false, false] rfl rfl (by kernel_rfl) (by decide) (fun K hK => ?_)
  refine goes_ Tryz.func19 (by kernel_rfl) rfl #[.slice Ab nb cb, .agg #[.int .i64 k, .int .i64 d, .slice A n c, .slice KA m c']] (by rfl) rfl rfl (by simp only [List.map_toArray, List.map_cons, List.map_nil]; rfl) ?_
  with_reducible refine (HAP.out _ H2.out).mono ?_
  rintro e w3 ⟨v', rfl, ⟨hsum, hv⟩, h3⟩
  refine ⟨_, rfl, ?_⟩
  have HV := Lib.hid hv
  have H3 := Lib.hid (H2.out.trans (h3.mono H2.out.size))
  have X3 := Lib.hid (X2.out.below h3 X2.out.lt)
  have B3 := Lib.hid (Below.refl w3.heap.size w3)
  clear h3 hv
  refine hK.out _ _ ⟨(X3.out.cell 0).trans rfl, (X3.out.cell 1).trans rfl, (X3.out.cell 2).trans rfl, (X3.out.cell 3).trans rfl, HCV.out _ H3.out⟩ (fun hHeld => ?_)
  clear hK K
  refine norm_ (a' := ?_) ?_ ?_
  rotate_left
  · show Act.put _ (some 24) _ = _
    simp only [Act.put, List.setIfInBounds_toArray, List.set_cons_zero, List.set_cons_succ]
    rfl
  refine swap_ (S' := fun w' => w'.cell? ⟨w.heap.size, 0, none⟩ = some (.int .i64 k) ∧ w'.cell? ⟨w.heap.size, 1, none⟩ = some (.int .i64 d) ∧ w'.cell? ⟨w.heap.size, 2, none⟩ = some (.slice A n c) ∧ w'.cell? ⟨w.heap.size, 3, none⟩ = some (.slice KA m c') ∧ Sem.run Tryz.prog (convert 30 9 (.slice Ab nb cb)) w' = Result.ok (Value.string S0) w' ∧ Sem.run Tryz.prog (convert 30 9 v') w' = Result.ok (Value.string S2) w') (fun _ h => ⟨h.1, h.2.1, h.2.2.1, h.2.2.2.1, h.2.2.2.2.1⟩) _ _ _ _ ⟨hHeld.1, hHeld.2.1, hHeld.2.2.1, hHeld.2.2.2.1, hHeld.2.2.2.2, HV.out _ B3.out⟩ ?_
  replace hHeld : (fun w' => w'.cell? ⟨w.heap.size, 0, none⟩ = some (.int .i64 k) ∧ w'.cell? ⟨w.heap.size, 1, none⟩ = some (.int .i64 d) ∧ w'.cell? ⟨w.heap.size, 2, none⟩ = some (.slice A n c) ∧ w'.cell? ⟨w.heap.size, 3, none⟩ = some (.slice KA m c') ∧ Sem.run Tryz.prog (convert 30 9 (.slice Ab nb cb)) w' = Result.ok (Value.string S0) w' ∧ Sem.run Tryz.prog (convert 30 9 v') w' = Result.ok (Value.string S2) w') w3 := ⟨hHeld.1, hHeld.2.1, hHeld.2.2.1, hHeld.2.2.2.1, hHeld.2.2.2.2, HV.out _ B3.out⟩
  refine take_ (i := 3) (N := some 25) (v := ?_) (a' := ?_) #[true, true, true, true, true, true, true, false, false, false, false] rfl rfl (by kernel_rfl) (fun _ _ _ h => h) (Or.inl ⟨by rfl, ?_⟩) hHeld ?_ ?_
  rotate_left
  · rintro w' ⟨s0, s1, s2, s3, s4, s5⟩
    go_simp
    with_reducible rfl
  rotate_left
  · simp only [Act.put, List.setIfInBounds_toArray, List.set_cons_zero, List.set_cons_succ]
    rfl
  refine one_ (i := 7) (N := some 29) #[true, true, true, true, true, true, true, true, false, false, false] rfl rfl (by kernel_rfl) (by decide) (fun K hK => ?_)
  refine goes_ Tryz.func20 (by kernel_rfl) rfl #[.agg #[.int .i64 k, .int .i64 d, .slice A n c, .slice KA m c']] (by rfl) rfl rfl (by simp only [List.map_toArray, List.map_cons, List.map_nil]; rfl) ?_
  with_reducible refine (HWR.out _ H3.out).mono ?_
  rintro e w4 ⟨rfl, h4⟩
  refine ⟨_, rfl, ?_⟩
  have H4 := Lib.hid (H3.out.trans (h4.mono H3.out.size))
  have X4 := Lib.hid (X3.out.below h4 X3.out.lt)
  have B4 := Lib.hid (B3.out.trans (h4.mono B3.out.size))
  clear h4
  refine hK.out _ _ ⟨(X4.out.cell 0).trans rfl, (X4.out.cell 1).trans rfl, (X4.out.cell 2).trans rfl, (X4.out.cell 3).trans rfl, HCV.out _ H4.out, HV.out _ B4.out⟩ (fun hHeld => ?_)
  clear hK K
  refine norm_ (a' := ?_) ?_ ?_
  rotate_left
  · show Act.put _ (some 29) _ = _
    simp only [Act.put, List.setIfInBounds_toArray, List.set_cons_zero, List.set_cons_succ]
    rfl
  refine pure_ (i := 8) (N := some 30) (v := ?_) (a' := ?_) #[true, true, true, true, true, true, true, true, true, false, false] rfl rfl (by kernel_rfl) (fun _ _ _ h => h) (Or.inl ⟨by rfl, ?_⟩) ?_ ?_
  rotate_left
  · intro w'
    go_simp
    with_reducible rfl
  rotate_left
  · simp only [Act.put, List.setIfInBounds_toArray, List.set_cons_zero, List.set_cons_succ]
    rfl
  refine pure_ (i := 9) (N := some 31) (v := ?_) (a' := ?_) #[true, true, true, true, true, true, true, true, true, true, false] rfl rfl (by kernel_rfl) (fun _ _ _ h => h) (Or.inl ⟨by rfl, ?_⟩) ?_ ?_
  rotate_left
  · intro w'
    go_simp
    with_reducible rfl
  rotate_left
  · simp only [Act.put, List.setIfInBounds_toArray, List.set_cons_zero, List.set_cons_succ]
    rfl
  refine pure_ (i := 10) (N := some 4) (v := ?_) (a' := ?_) #[true, true, true, true, true, true, true, true, true, true, true] rfl rfl (by kernel_rfl) (fun _ _ _ h => h) (Or.inl ⟨by rfl, ?_⟩) ?_ ?_
  rotate_left
  · intro w'
    go_simp
    with_reducible rfl
  rotate_left
  · simp only [Act.put, List.setIfInBounds_toArray, List.set_cons_zero, List.set_cons_succ]
    rfl
  refine done_ (by kernel_rfl) ?_
  go_wp2
  go_ret
  have hq : (S2.toList == (S0 ++ S1).toList) = true := by rw [HS2.out]; simp
  exact ⟨by first | rfl | exact congrArg (fun b => Ending.returned (Value.bool b)) hq, H4.out⟩

end Go.Proofs.YtpbcfgehmalppaaGreatDoor

/- The row of the law FnTextAppend: for every input it returns true, and what it was handed reads as it did; and the card that ties the listed tables to the program's text. -/
namespace Go.Proofs.YtpbcfgehmalppaaGreatDoor.TextAppendC
open Go.Joins Go.ChangeShapes Go.WideShapes Go.ChangeAt Go.RowKit Go.Deep Go.Lib

theorem bytes_of_trod {H : Type} {enc : TypeId × Value → H} {w : World} {spare : Nat → Bool} {held : Bool} {fuel : Nat} {v : Value} {y : DataW H × List MemPlace} (h : DataW.trod enc Tryz.prog w 0 spare held fuel 30 [v] = some y) :
    ∃ (A : Option Addr) (n c : Nat) (bs : List Int), v = .slice A n c ∧ Reads w w.heap.size 1 A n (bytesV bs) := by
  rcases DataW.trod_slice Tryz.underlying30 h with ⟨e, _⟩ | ⟨a, len, cap, elems, rest, n1, _, e, _, _, hl, _, hlen, hel, _⟩
  · injection e with e
    exact ⟨none, 0, 0, [], e, Reads.none_⟩
  · injection e with e
    have hc1 : Tryz.prog.cellsOf 5 = 1 := by kernel_rfl
    obtain ⟨bs, h1, h2⟩ := list_of (P := fun i b => w.cell? (a.add i) = some (.int .u8 b)) len fun i hi => by
      have he := hel i hi
      rw [hc1, Nat.mul_one, List.getElem?_eq_getElem (by omega)] at he
      obtain ⟨cs, k1, k2⟩ := Option.bind_eq_some_iff.1 he
      obtain ⟨_, hcl, hcc⟩ := World.cells?_some k1
      match cs, hcl with
      | [u], _ =>
        obtain ⟨b, hb, _, _⟩ := DataW.trod_int Tryz.underlying5 k2
        obtain rfl : u = .int .u8 b := by simpa using hb
        have := hcc 0 (by omega)
        exact ⟨b, by simpa [Addr.add] using this⟩
    refine ⟨some a, len, cap, bs, e, by rw [bytesV_length]; omega, fun h0 => ?_⟩
    refine ⟨a, rfl, ?_, fun j u hu => ?_⟩
    · have := World.block_lt_of_cell? w _ (h2 0 _ (List.getElem?_eq_getElem (by omega)))
      rwa [block_of_add] at this
    · unfold bytesV at hu
      rw [List.getElem?_map] at hu
      obtain ⟨b, hb, rfl⟩ := Option.map_eq_some_iff.1 hu
      exact h2 j b hb

theorem size_of_reads {W : World} (h : VarReads Tryz.prog W "math/bits.deBruijn64tab" Rows.laid_math_bits_deBruijn64tab) : 7 ≤ W.heap.size := by
  obtain ⟨g, t, cs, fuel, p, hg, ht, hvar, hd⟩ := h
  obtain rfl := Option.some.inj ((show Tryz.prog.globalNamed "math/bits.deBruijn64tab" = some 6 by kernel_rfl).symm.trans hg)
  simp only [World.var?, hg, Option.bind_some] at hvar
  split at hvar
  · rename_i hb
    have := (Array.getElem?_eq_some_iff.1 hb).1
    exact this
  · cases hvar

theorem own : ownKnob Tryz.prog.godebug = none := by kernel_rfl
theorem laidOut : laidOutB Tryz.prog = true := by kernel_rfl
abbrev laid : List (String × DataW Unit) := Rows.fnTextAppendRow.laid

set_option maxRecDepth 100000 in
theorem lifted (os : Os) (started : os.Started) (H : Type) (enc : TypeId × Value → H) :
    ReturnsInHanded {} Tryz.checked os 7 .any (fun w args => (Rows.fnTextAppendSpec.pre enc Tryz.prog Tryz.f7 [] false w args ∧ laidMetH Tryz.prog laid w) ∧ sizedMet enc Tryz.prog Tryz.f7 (OpenSpec.ofChange Rows.fnTextAppendSpec) false w args)
      (Rows.fnTextAppendSpec.post enc Tryz.prog Tryz.f7 false true false false) := by
  refine returnsInHanded_of_change_and (C := Tryz.checked) (X := fun w _ => laidMetH Tryz.prog laid w) (fun _ _ _ hh h => h.of_heap hh) own started (by kernel_rfl) Tryz.func7
    (ChangeSpec.witness_shaped (enc := enc) (C := Tryz.checked) (os := os) (X := fun w _ => laidMetH Tryz.prog laid w) false (World.laidAll Tryz.prog os laid) #[.slice none 0 0, .agg #[.int .i64 0, .int .i64 0, .slice none 0 0, .slice none 0 0]] 8 (World.laidAll_os _ _ _)
      (World.shaped_of_ZipB (by kernel_rfl) (by kernel_rfl)) (by kernel_rfl) (by kernel_rfl) (by kernel_rfl)
      (by rw [MakeChecks.laidMetH_plain _ _ _ (by kernel_rfl)]; exact laidMet_laidAll _ (by kernel_rfl) (by kernel_rfl))) ?_
  intro W base args ds gs before hval0 hW _ _ hL _
  have hval : ∀ (j : Nat) t v, Tryz.f7.params[j]? = some t → args[j]? = some v → Value.okWide Tryz.prog W .any base t v := hval0
  have hW' := hW
  obtain ⟨p, q, hA0, hV, rfl, _, _⟩ := hW
  have hA : DataW.TrodAll enc Tryz.prog W 0 (fun _ => true) true Tryz.f7.params.toList args.toList ds p := hA0
  rw [Tryz.params7] at hA hval
  obtain ⟨v0, v1, d0, d1, p0, p1, rfl, rfl, rfl, h0, h1⟩ := trodAll_two hA
  obtain ⟨rfl, rfl⟩ := trodVars_none hV
  have k0 := h0
  have k1 := h1
  have lt0 : ∀ x ∈ p0, x.block < W.heap.size := by obtain ⟨n, hn⟩ := k0; exact DataW.trod_lt n _ _ _ hn
  have lt1 : ∀ x ∈ p1, x.block < W.heap.size := by obtain ⟨n, hn⟩ := k1; exact DataW.trod_lt n _ _ _ hn
  obtain ⟨cs, rfl, hsz4⟩ := okWide_struct Tryz.underlying25 (hval 1 25 v1 rfl rfl)
  obtain ⟨fuel0, hf0⟩ := h0
  have hsl : v0.cells.toList = [v0] := by
    obtain ⟨ad, ln, cp, rfl⟩ := okWide_slice Tryz.underlying30 (hval 0 30 v0 rfl rfl)
    rfl
  rw [hsl] at hf0
  obtain ⟨Ab, nb, cb, bs, rfl, hBY⟩ := bytes_of_trod hf0
  obtain ⟨fuel, hf⟩ := h1
  obtain ⟨k, d, A, K, n, m, c, c', t, hcs, hnc, hG⟩ := gm_of_trod fuel _ _ hf
  obtain rfl : cs = #[.int .i64 k, .int .i64 d, .slice A n c, .slice K m c'] := by
    have := congrArg List.toArray hcs
    simpa [Value.cells] using this
  rw [MakeChecks.laidMetH_plain _ _ _ (by kernel_rfl)] at hL
  have hpow : Pow10 W hiT loT := pow_of_reads (Lib.laidMet.reads hL (d := Rows.laid_internal_strconv_pow10Tab) (.tail _ (.tail _ (.tail _ (.tail _ (.tail _ (.head _)))))))
  have hten : Tab10 W := ten_of_reads (Lib.laidMet.reads hL (.tail _ (.tail _ (.tail _ (.head _)))))
  have hsz : 7 ≤ W.heap.size := size_of_reads (Lib.laidMet.reads hL (.tail _ (.head _)))
  have hft : FtTabs W hiT loT := ⟨hpow, tab_range, hten, hsz⟩
  refine (FnTextAppend_law hiT loT W hft hG hBY (Nat.le_refl _)).mono fun e W' ⟨he, bel⟩ => ?_
  subst he
  exact ⟨_, rfl, _, _, _, [], _, [], hW', trodAll_mk1 (shut_bool Tryz.underlying4 _), trodAll_mk2 (Below.trod laidOut (by kernel_rfl) (of_decide_eq_true (by kernel_rfl)) k0 bel lt0) (Below.trod laidOut (by kernel_rfl) (of_decide_eq_true (by kernel_rfl)) k1 bel lt1), rfl, bel.frame _, fun h => by cases h⟩

theorem over : Rows.FnTextAppendSaid :=
  OpenClaim.holds_of_wide 7 Tryz.f7 rfl rfl rfl rfl rfl rfl rfl ⟨rfl, rfl, rfl, rfl, rfl⟩ rfl rfl rfl rfl rfl (by kernel_rfl) Tryz.func7 (by kernel_rfl)
    (of_decide_eq_true (by kernel_rfl)) (by unfold Func.isWrapper; first | (rw [if_pos (by decide +kernel)]; kernel_rfl) | (rw [if_neg (by decide +kernel)]; exact ⟨rfl, rfl⟩))
    (fun os started H enc _ => lifted os started H enc)

theorem card : Rows.FnTextAppendCardSaid :=
  Claim7.holds_tied_plain_at .later [] [.data, .data, .data, .data, .pinned, .pinned] true (true, "7d10880d0100bb61184fffae3825abb45b511aa7be47748017cd4e8d360c3ad9") true over (fun _ h => by cases h) (by kernel_rfl) (fun _ h => by cases h) fnTextAppend_row_tie rfl ⟨rfl, rfl⟩ (by kernel_rfl) rfl
    (fun f fn hf hfn => by
      obtain rfl : f = 7 := Option.some.inj ((show Tryz.prog.funcNamed "pub-alidade/laws.FnTextAppend" = some 7 by kernel_rfl).symm.trans hf) |>.symm
      obtain rfl : fn = Tryz.f7 := (Option.some.inj (Tryz.func7.symm.trans hfn)).symm
      exact ⟨by kernel_rfl, fun j t ht => by
        rw [Tryz.params7] at ht
        have hm : t ∈ [30, 25] := by simpa using Array.mem_of_getElem? ht
        have hall : ([30, 25].all fun u => !Tryz.prog.wantsStandIn u) = true := by kernel_rfl
        exact (show Tryz.prog.wantsStandIn t = false by simpa using List.all_eq_true.1 hall t hm)⟩)
    (by kernel_rfl)
#print axioms card
end Go.Proofs.YtpbcfgehmalppaaGreatDoor.TextAppendC
namespace Go.Proofs.YtpbcfgehmalppaaGreatDoor
theorem fnTextAppend_card : Rows.FnTextAppendCardSaid := TextAppendC.card
end Go.Proofs.YtpbcfgehmalppaaGreatDoor
