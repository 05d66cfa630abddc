import Derived.Test.YtofdccmmagcamaaGreatDoorBxG
import Derived.Test.YtofdccmmagcamaaGreatDoorMhN
/- The reference's writer of bytes: numbers, lines. -/
set_option maxHeartbeats 8000000
set_option linter.unusedSimpArgs false
set_option linter.unusedVariables false
namespace Go.Proofs.YtofdccmmagcamaaGreatDoor
open Go.RowKit Go.Proofs.YtofdccmmagcamaaGreatDoorW.PrintLast

attribute [local go_sem] run_store_float

theorem numsB_snoc (big : Bool) (ns : List Nat) (x : Nat) : numsB big (ns ++ [x]) = numsB big ns ++ uB big 8 x := by simp [numsB]
theorem numsB_take_len (big : Bool) (ns : List Nat) (k : Nat) : (numsB big (ns.take k)).length ≤ 8 * k := by
  rw [numsB_length]
  have : (ns.take k).length ≤ k := List.length_take_le _ _
  omega

set_option maxRecDepth 100000 in
/-- The numbers lie in a block of K. -/
theorem nums_on {W : World} {g : Nat} {K : Nat → Prop} {bs : List Int} {O : Value} (big : Bool) {A : Option Addr} {n c : Nat} {ns : List Nat} (hnl : ns.length = n) (hr : 0 < n → ∃ g, A = some ⟨g, 0, none⟩ ∧ K g ∧ ∀ j, j < n → W.cell? ⟨g, j, none⟩ = some (.float .f64 (ns.getD j 0))) (hb : ∀ b ∈ ns, b < 18446744073709551616) (h : Bo W g K bs O) (hl : bs.length + 8 * n ≤ 100000000) :
    Calls Tryz.prog 113 #[.pointer (some ⟨g, 0, none⟩), .slice A n c, .bool big] W fun e w' => e = .returned (.tuple #[]) ∧ Bo w' g K (bs ++ numsB big ns) O ∧ Kp W w' K := by
  have HR := Hd hr
  have HNL := Hd hnl
  have HBB := Hd hb
  have H := Hd h
  clear hr hnl hb h
  go_enter Tryz.func113, Tryz.ntmps113
  go_wp2
  go_loopw [10] (fun i wr => ∃ k : Nat, k ≤ n ∧ i = .int .i64 k ∧ Bo wr g K (bs ++ numsB big (ns.take k)) O ∧ Kp W wr K) (fun i _ => n - (intOf i).toNat)
  case atStart => exact ⟨0, Nat.zero_le _, rfl, by simpa [numsB] using H.out, Kp.refl _ _⟩
  case round =>
    obtain ⟨k, hk, rfl, h1, kp⟩ := hrel
    have HKP := Hd kp
    clear kp
    by_cases hlt : k < n
    · have hkl : k < ns.length := by rw [HNL.out]; exact hlt
      obtain ⟨g1, rfl, hg1, hc⟩ := HR.out (by omega)
      have hcl := cell_lt (hc 0 (by omega))
      have d0 := (World.cell?_of_block (a := ⟨g1, k, none⟩) (HKP.out.keep g1 hg1 hcl)).trans (hc k hlt)
      rw [List.getD_eq_getElem?_getD, List.getElem?_eq_getElem hkl, Option.getD_some] at d0
      have hxb : ns[k] < 18446744073709551616 := HBB.out _ (List.getElem_mem _)
      have HT := Hd (take_snoc' ns k hkl)
      have hlk := numsB_take_len big ns k
      generalize ns[k] = x at *
      generalize ns.take k = nk at *
      have HU := Hd (uint_eight big x hxb h1 (by rw [List.length_append]; omega))
      have hbt := run_bits64 x
      clear h1 hc
      go_wp2_with fail
      refine HU.out.mono ?_
      rintro e w1 ⟨rfl, h2, k2⟩
      have H2 := Hd h2
      have K2 := Hd k2
      clear h2 k2
      go_wp2
      go_roundw
      case rel =>
        refine ⟨k + 1, by omega, by go_num, ?_⟩
        rw [HT.out, numsB_snoc, ← List.append_assoc]
        exact ⟨H2.out, HKP.out.trans K2.out⟩
      case measure => simp [intOf]; omega
    · obtain rfl : n = k := by omega
      rw [List.take_of_length_le (by rw [HNL.out]; exact Nat.le_refl _)] at h1
      have H1 := Hd h1
      clear h1
      go_wp2
      go_end0
      exact ⟨rfl, H1.out, HKP.out⟩

set_option maxRecDepth 100000 in
theorem lineW {W : World} {ok K : Nat → Prop} {k d : Int} {ns : List Nat} {ks : List Gm} {A KA : Option Addr} {n m c c' g : Nat} {bs : List Int} {O : Value} (big : Bool) (d0 : 0 ≤ d) (d1 : d ≤ 3) (h : GmOn W ok [.int .i64 k, .int .i64 d, .slice A n c, .slice KA m c'] (.mk k d ns ks)) (hok : ∀ b, ok b → b < W.heap.size → K b) (hB : Bo W g K bs O) (hl : bs.length + 4 + 8 * n ≤ 100000000) :
    Calls Tryz.prog 114 #[.pointer (some ⟨g, 0, none⟩), .agg #[.int .i64 k, .int .i64 d, .slice A n c, .slice KA m c'], .bool big] W fun e w' => e = .returned (.tuple #[]) ∧ Bo w' g K (bs ++ lineB big (.mk k d ns ks)) O ∧ Kp W w' K := by
  obtain ⟨en, hr, hb⟩ : ns.length = n ∧ (0 < n → ∃ g, A = some ⟨g, 0, none⟩ ∧ ok g ∧ ∀ j, j < n → W.cell? ⟨g, j, none⟩ = some (.float .f64 (ns.getD j 0))) ∧ ∀ b ∈ ns, b < 18446744073709551616 := by
    cases h with
    | mk en hn hb em ec el hk hs => exact ⟨en, hn, hb⟩
  clear h
  have hwd := Width_any d d0 d1
  have hwp : 2 ≤ wd d ∧ wd d ≤ 4 := by rcases wd_cases d d0 d1 with ⟨_, h⟩ | ⟨_, h⟩ | ⟨_, h⟩ | ⟨_, h⟩ <;> rw [h] <;> omega
  have hle : n / wd d ≤ n := Nat.div_le_self _ _
  have hne : ((wd d : Int) == 0) = false := by rw [beq_eq_false_iff_ne]; omega
  have hcv : (n : Int) / (wd d : Int) = ((n / wd d : Nat) : Int) := (Int.natCast_ediv n (wd d)).symm
  have hlb : lineB big (.mk k d ns ks) = uB big 4 (n / wd d) ++ numsB big ns := by rw [← en]; rfl
  generalize n / wd d = M at *
  generalize wd d = D at *
  have hD0 : ¬ D = 0 := by omega
  have hcw : IntKind.u64.wrap (M : Int) = (M : Int) := by rw [IntKind.wrap_u64]; omega
  have hcw2 : IntKind.i64.wrap (M : Int) = (M : Int) := by rw [IntKind.wrap_i64]; omega
  have hbx2 : Bo (World.drew (W.alloc (.cells #[.int .i64 k, .int .i64 d, .slice A n c, .slice KA m c'] 25))) g (fun b => K b ∨ b = W.heap.size) bs O := (hB.box _).keep (Below.drew (Below.refl _ _))
  have HU := Hd (uint_four big M (by omega) hbx2 (by omega))
  have X1 := Hd (Blk.drew (Blk.new W 25 #[.int .i64 k, .int .i64 d, .slice A n c, .slice KA m c']))
  have hKs := hB.ks
  have hgB := hB.lt
  have HNU : Hid (∀ w1 : World, Bo w1 g (fun b => K b ∨ b = W.heap.size) (bs ++ uB big 4 M) O → Kp (World.drew (W.alloc (.cells #[.int .i64 k, .int .i64 d, .slice A n c, .slice KA m c'] 25))) w1 (fun b => K b ∨ b = W.heap.size) → Calls Tryz.prog 113 #[.pointer (some ⟨g, 0, none⟩), .slice A n c, .bool big] w1 fun e w' => e = .returned (.tuple #[]) ∧ Bo w' g (fun b => K b ∨ b = W.heap.size) (bs ++ uB big 4 M ++ numsB big ns) O ∧ Kp w1 w' (fun b => K b ∨ b = W.heap.size)) := Hd (fun w1 h1 k1 => nums_on (c := c) big en (fun h0 => by
      obtain ⟨g1, e, hg1, hc⟩ := hr h0
      have hl1 := cell_lt (hc 0 h0)
      have hk1 : w1.heap[g1]? = W.heap[g1]? := (k1.keep g1 (.inl (hok g1 hg1 hl1)) (by show g1 < (W.alloc _).heap.size; rw [World.size_alloc]; omega)).trans (Below.heap_alloc W _ g1 hl1)
      exact ⟨g1, e, .inl (hok g1 hg1 hl1), fun j hj => (World.cell?_of_block hk1).trans (hc j hj)⟩) hb h1 (by rw [List.length_append, uB_length]; omega))
  have HWD := Hd hwd
  have HLB := Hd hlb
  clear hr hb hB hbx2 hwd hlb en hok
  go_enter Tryz.func114, Tryz.ntmps114
  go_wp2
  refine start_ (n := 11) (S := fun w' => w'.cell? ⟨W.heap.size, 2, none⟩ = some (.slice A n c) ∧ w'.cell? ⟨W.heap.size, 1, none⟩ = some (.int .i64 d)) (ds := [10]) #[false, false, false, false, false, false, false, false, false, false, false] (by kernel_rfl) rfl rfl ⟨(X1.out.cell 2).trans rfl, (X1.out.cell 1).trans rfl⟩ (fun hHeld => ?_)
  refine pure_ (i := 0) (N := some 6) (v := ?_) (a' := ?_) #[true, false, false, false, false, false, false, false, false, false, false] rfl rfl (by kernel_rfl) (fun _ _ _ h => h) (Or.inl ⟨by rfl, ?_⟩) ?_ ?_
  rotate_left; (· intro w'; go_simp; with_reducible rfl); rotate_left; (· simp only [Act.put, sA, sB, sC]; rfl)
  refine pure_ (i := 1) (N := some 7) (v := ?_) (a' := ?_) #[true, true, false, false, false, false, false, false, false, false, false] rfl rfl (by kernel_rfl) (fun _ _ _ h => h) (Or.inl ⟨by rfl, ?_⟩) ?_ ?_
  rotate_left; (· intro w'; go_simp; with_reducible rfl); rotate_left; (· simp only [Act.put, sA, sB, sC]; rfl)
  refine pure_ (i := 4) (N := some 10) (v := ?_) (a' := ?_) #[true, true, false, false, true, false, false, false, false, false, false] rfl rfl (by kernel_rfl) (fun _ _ _ h => h) (Or.inl ⟨by rfl, ?_⟩) ?_ ?_
  rotate_left; (· intro w'; go_simp; with_reducible rfl); rotate_left; (· simp only [Act.put, sA, sB, sC]; rfl)
  refine pure_ (i := 9) (N := some 15) (v := ?_) (a' := ?_) #[true, true, false, false, true, false, false, false, false, true, false] rfl rfl (by kernel_rfl) (fun _ _ _ h => h) (Or.inl ⟨by rfl, ?_⟩) ?_ ?_
  rotate_left; (· intro w'; go_simp; with_reducible rfl); rotate_left; (· simp only [Act.put, sA, sB, sC]; rfl)
  refine take_ (i := 2) (N := some 8) (v := ?_) (a' := ?_) #[true, true, true, false, true, false, false, false, false, true, false] rfl rfl (by kernel_rfl) (fun _ _ _ h => h) (Or.inl ⟨by rfl, ?_⟩) hHeld ?_ ?_
  rotate_left; (· rintro w' ⟨s0, s1⟩; go_simp; with_reducible rfl); rotate_left; (· simp only [Act.put, sA, sB, sC]; rfl)
  refine pure_ (i := 3) (N := some 9) (v := ?_) (a' := ?_) #[true, true, true, true, true, false, false, false, false, true, false] rfl rfl (by kernel_rfl) (fun _ _ _ h => h) (Or.inl ⟨by rfl, ?_⟩) ?_ ?_
  rotate_left; (· intro w'; go_simp; with_reducible rfl); rotate_left; (· simp only [Act.put, sA, sB, sC]; rfl)
  refine take_ (i := 5) (N := some 11) (v := ?_) (a' := ?_) #[true, true, true, true, true, true, false, false, false, true, false] rfl rfl (by kernel_rfl) (fun _ _ _ h => h) (Or.inl ⟨by rfl, ?_⟩) hHeld ?_ ?_
  rotate_left; (· rintro w' ⟨s0, s1⟩; go_simp; with_reducible rfl); rotate_left; (· simp only [Act.put, sA, sB, sC]; rfl)
  refine one_ (i := 6) (N := some 12) #[true, true, true, true, true, true, true, false, false, true, false] rfl rfl (by kernel_rfl) (by decide) (fun K hK => ?_)
  refine goes_ Tryz.func34 (by kernel_rfl) rfl #[.int .i64 d] (by rfl) rfl rfl (by simp only [List.map_toArray, List.map_cons, List.map_nil]; rfl) ?_
  with_reducible refine (HWD.out _).mono ?_
  rintro e w5 ⟨rfl, rfl⟩
  refine ⟨_, rfl, ?_⟩
  refine hK.out _ _ ⟨(X1.out.cell 2).trans rfl, (X1.out.cell 1).trans rfl⟩ (fun hHeld => ?_)
  clear hK K
  refine norm_ (a' := ?_) ?_ ?_
  rotate_left
  · show Act.put _ (some 12) _ = _
    simp only [Act.put, sA, sB, sC]
    rfl
  refine pure_ (i := 7) (N := some 13) (v := ?_) (a' := ?_) #[true, true, true, true, true, true, true, true, false, true, false] rfl rfl (by kernel_rfl) (fun _ _ _ h => h) (Or.inl ⟨by rfl, ?_⟩) ?_ ?_
  rotate_left; (· intro w'; go_simp; with_reducible rfl); rotate_left; (· simp only [Act.put, sA, sB, sC]; rfl)
  refine pure_ (i := 8) (N := some 14) (v := ?_) (a' := ?_) #[true, true, true, true, true, true, true, true, true, true, false] rfl rfl (by kernel_rfl) (fun _ _ _ h => h) (Or.inl ⟨by rfl, ?_⟩) ?_ ?_
  rotate_left; (· intro w'; go_simp; with_reducible rfl); rotate_left; (· simp only [Act.put, sA, sB, sC]; rfl)
  refine last_ (i := 10) (N := some 16) #[true, true, true, true, true, true, true, true, true, true, true] rfl rfl (by kernel_rfl) (by decide) (fun K hK => ?_)
  refine goes_ Tryz.func111 (by kernel_rfl) rfl #[.pointer (some ⟨g, 0, none⟩), .int .u64 M, .int .i64 4, .bool big] (by rfl) rfl rfl (by simp only [List.map_toArray, List.map_cons, List.map_nil]; rfl) ?_
  with_reducible refine (HU.out).mono ?_
  rintro e w2 ⟨rfl, h2, k2⟩
  refine ⟨_, rfl, ?_⟩
  refine hK.out _ _ ?_
  clear hK K
  refine norm_ (a' := ?_) ?_ ?_
  rotate_left
  · show Act.put _ (some 16) _ = _
    simp only [Act.put, sA, sB, sC]
    rfl
  refine done_ (by kernel_rfl) ?_
  have c2 := (k2.keep W.heap.size (.inr rfl) (by show _ < (W.alloc _).heap.size; simp)).trans X1.out
  have X2 := Hd (show Blk w2 W.heap.size 25 #[.int .i64 k, .int .i64 d, .slice A n c, .slice KA m c'] from c2)
  have d2 := X2.out.cell 2
  simp at d2
  have HC := Hd (HNU.out w2 h2 k2)
  have K2 := Hd k2
  clear h2 k2 c2 HNU
  go_wp2_with fail
  refine HC.out.mono ?_
  rintro e w3 ⟨rfl, h3, k3⟩
  have H3 := Hd h3
  have K3 := Hd k3
  clear h3 k3
  go_wp2
  go_end0
  refine ⟨rfl, by rw [HLB.out, ← List.append_assoc]; exact H3.out.less (fun b h => .inl h), ?_⟩
  exact (Kp.of_below (Below.drew ((Below.refl W.heap.size W).alloc (Nat.le_refl _) _)) K).trans ((K2.out.trans K3.out).less (fun b h => .inl h))

end Go.Proofs.YtofdccmmagcamaaGreatDoor
