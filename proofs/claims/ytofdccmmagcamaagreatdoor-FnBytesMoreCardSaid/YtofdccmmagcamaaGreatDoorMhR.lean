import Derived.Test.YtofdccmmagcamaaGreatDoorMhH
import Derived.Test.YtofdccmmagcamaaGreatDoorMhB
import Derived.Test.YtofdccmmagcamaaGreatDoorMhE
import Derived.Test.YtofdccmmagcamaaGreatDoorBxJ
/- The reference's comparison of geometries as data: two of one tree are the same. -/
set_option maxHeartbeats 8000000
set_option linter.unusedSimpArgs false
set_option linter.unusedVariables false
namespace Go.Proofs.YtofdccmmagcamaaGreatDoor
open Go.RowKit

attribute [local go_sem] run_store_float

/-- Numbers that lie in a block. -/
def NumOn (w : World) (A : Option Addr) (n : Nat) (ns : List Nat) : Prop := ns.length = n ∧ (0 < n → ∃ g, A = some ⟨g, 0, none⟩ ∧ g < w.heap.size ∧ ∀ j, j < n → w.cell? ⟨g, j, none⟩ = some (.float .f64 (ns.getD j 0)))
set_option maxRecDepth 100000 in
theorem SameNums_any {A B : Option Addr} {n c c2 : Nat} {ns : List Nat} (W : World) (hm : n ≤ 1000000000) (hb : ∀ b ∈ ns, b < 18446744073709551616) (h1 : NumOn W A n ns) (h2 : NumOn W B n ns) :
    Calls Tryz.prog 45 #[.slice A n c, .slice B n c2] W fun e w' => e = .returned (.bool true) ∧ Below W.heap.size W w' := by
  have H1 := Hd h1
  have H2 := Hd h2
  clear h1 h2
  go_enter Tryz.func45, Tryz.ntmps45
  go_wp2
  go_loopw [14] (fun i wr => ∃ k : Nat, k ≤ n ∧ i = .int .i64 k ∧ Below W.heap.size W wr) (fun i _ => n - (intOf i).toNat)
  case atStart => exact ⟨0, Nat.zero_le _, rfl, Below.refl _ _⟩
  case round =>
    obtain ⟨k, hk, rfl, hbr⟩ := hrel
    by_cases hlt : k < n
    · obtain ⟨g1, rfl, hg1, hc1⟩ := H1.out.2 (by omega)
      obtain ⟨g2, rfl, hg2, hc2⟩ := H2.out.2 (by omega)
      have d1 := (hbr.cell (p := ⟨g1, k, none⟩) hg1).trans (hc1 k hlt)
      have d2 := (hbr.cell (p := ⟨g2, k, none⟩) hg2).trans (hc2 k hlt)
      generalize ns.getD k 0 = x at *
      have hbt := run_bits64 x
      have hxx : ((x : Int) == (x : Int)) = true := beq_self_eq_true _
      have HBR := Hd hbr
      clear hbr hc1 hc2
      go_wp2
      go_quiet (fail)
      go_wp2
      go_roundw
      case rel => exact ⟨k + 1, by omega, by go_num, below_drewN HBR.out _⟩
      case measure => simp [intOf]; omega
    · obtain rfl : n = k := by omega
      have HBR := Hd hbr
      clear hbr
      go_wp2
      go_ret
      exact ⟨rfl, HBR.out⟩

end Go.Proofs.YtofdccmmagcamaaGreatDoor

/- The reference's comparison of geometries as data: two of one tree are the same. -/
set_option maxHeartbeats 8000000
set_option linter.unusedSimpArgs false
set_option linter.unusedVariables false
namespace Go.Proofs.YtofdccmmagcamaaGreatDoor
open Go.RowKit Go.Proofs.YtofdccmmagcamaaGreatDoorW.PrintLast

attribute [local go_sem] run_store_float

def SameG (t : Gm) : Prop := ∀ (W : World) (ok1 ok2 : Nat → Prop) (k1 d1 k2 d2 : Int) (A1 K1 A2 K2 : Option Addr) (n1 m1 c1 e1 n2 m2 c2 e2 : Nat), GmOn W ok1 [.int .i64 k1, .int .i64 d1, .slice A1 n1 c1, .slice K1 m1 e1] t → GmOn W ok2 [.int .i64 k2, .int .i64 d2, .slice A2 n2 c2, .slice K2 m2 e2] t →
  Calls Tryz.prog 25 #[.agg #[.int .i64 k1, .int .i64 d1, .slice A1 n1 c1, .slice K1 m1 e1], .agg #[.int .i64 k2, .int .i64 d2, .slice A2 n2 c2, .slice K2 m2 e2]] W fun e w' => e = .returned (.bool true) ∧ Below W.heap.size W w'

set_option maxRecDepth 100000 in
theorem SameGeoms_of {W : World} {ok1 ok2 : Nat → Prop} {k d k' d' : Int} {ns ns' : List Nat} {ks : List Gm} {A A' K1 K2 : Option Addr} {n n' m m' c c' e1 e2 : Nat} (hm : m ≤ 1000000) (ih : ∀ t ∈ ks, SameG t) (h1 : GmOn W ok1 [.int .i64 k, .int .i64 d, .slice A n c, .slice K1 m e1] (.mk k d ns ks)) (h2 : GmOn W ok2 [.int .i64 k', .int .i64 d', .slice A' n' c', .slice K2 m' e2] (.mk k' d' ns' ks)) :
    Calls Tryz.prog 46 #[.slice K1 m e1, .slice K2 m' e2] W fun e w' => e = .returned (.bool true) ∧ Below W.heap.size W w' := by
  have hk1 := h1.kidsOf.1
  have hk2 := h2.kidsOf.1
  obtain rfl : m = m' := by omega
  have HK := Hd hk1
  have H1 := Hd h1
  have H2 := Hd h2
  have HI := Hd ih
  clear h1 h2 hk1 hk2 ih
  go_enter Tryz.func46, Tryz.ntmps46
  go_wp2
  go_loopw [14] (fun i wr => ∃ q : Nat, q ≤ m ∧ i = .int .i64 q ∧ Below W.heap.size W wr) (fun i _ => m - (intOf i).toNat)
  case atStart => exact ⟨0, Nat.zero_le _, rfl, Below.refl _ _⟩
  case round =>
    obtain ⟨q, hq, rfl, hbr⟩ := hrel
    by_cases hlt : q < m
    · have htq : ks[q]? = some (ks[q]'(by rw [HK.out]; exact hlt)) := List.getElem?_eq_getElem _
      have htm : (ks[q]'(by rw [HK.out]; exact hlt)) ∈ ks := List.getElem_mem _
      generalize (ks[q]'(by rw [HK.out]; exact hlt)) = s at htq htm
      obtain ⟨g1, k1, d1, A1, K1, n1, m1, c1, e1, rfl, -, hg1, y0, y1, y2, y3, gs1⟩ := H1.out.kidsOf.2 q s htq
      obtain ⟨g2, k2, d2, A2, K2, n2, m2, c2, e2, rfl, -, hg2, u0, u1, u2, u3, gs2⟩ := H2.out.kidsOf.2 q s htq
      have a0 := (hbr.cell (p := ⟨g1, q * 4, none⟩) hg1).trans y0
      have a1 := (hbr.cell (p := ⟨g1, q * 4 + 1, none⟩) hg1).trans y1
      have a2 := (hbr.cell (p := ⟨g1, q * 4 + 2, none⟩) hg1).trans y2
      have a3 := (hbr.cell (p := ⟨g1, q * 4 + 3, none⟩) hg1).trans y3
      have hws := hbr.size
      have hb2 : Below W.heap.size W (World.drew (wr.alloc (.cells #[.int .i64 k1, .int .i64 d1, .slice A1 n1 c1, .slice K1 m1 e1] 25))) := Below.drew (hbr.alloc hws _)
      have bx := Blk.drew (Blk.new wr 25 #[.int .i64 k1, .int .i64 d1, .slice A1 n1 c1, .slice K1 m1 e1])
      have b0 := (bx.cell 0).trans rfl
      have b1 := (bx.cell 1).trans rfl
      have b2 := (bx.cell 2).trans rfl
      have b3 := (bx.cell 3).trans rfl
      have x0 := (hb2.cell (p := ⟨g2, q * 4, none⟩) hg2).trans u0
      have x1 := (hb2.cell (p := ⟨g2, q * 4 + 1, none⟩) hg2).trans u1
      have x2 := (hb2.cell (p := ⟨g2, q * 4 + 2, none⟩) hg2).trans u2
      have x3 := (hb2.cell (p := ⟨g2, q * 4 + 3, none⟩) hg2).trans u3
      have HCALL := Hd (HI.out s htm (World.drew (wr.alloc (.cells #[.int .i64 k1, .int .i64 d1, .slice A1 n1 c1, .slice K1 m1 e1] 25))) _ _ _ _ _ _ _ _ _ _ _ _ _ _ _ _ _ _ (GmOn.keeps _ _ _ (fun b => b < W.heap.size) _ _ gs1 (fun b _ hl => hb2.block b hl) (fun b _ hl => hl)) (GmOn.keeps _ _ _ (fun b => b < W.heap.size) _ _ gs2 (fun b _ hl => hb2.block b hl) (fun b _ hl => hl)))
      have HB2 := Hd hb2
      clear y0 y1 y2 y3 u0 u1 u2 u3 gs1 gs2 hbr hb2 bx htq
      go_wp2
      refine start_ (n := 7) (S := fun w' => w'.cell? ⟨wr.heap.size, 0, none⟩ = some (.int .i64 k1) ∧ w'.cell? ⟨wr.heap.size, 1, none⟩ = some (.int .i64 d1) ∧ w'.cell? ⟨wr.heap.size, 2, none⟩ = some (.slice A1 n1 c1) ∧ w'.cell? ⟨wr.heap.size, 3, none⟩ = some (.slice K1 m1 e1) ∧ w'.cell? ⟨g2, q * 4, none⟩ = some (.int .i64 k2) ∧ w'.cell? ⟨g2, q * 4 + 1, none⟩ = some (.int .i64 d2) ∧ w'.cell? ⟨g2, q * 4 + 2, none⟩ = some (.slice A2 n2 c2) ∧ w'.cell? ⟨g2, q * 4 + 3, none⟩ = some (.slice K2 m2 e2)) (ds := [5]) #[false, false, false, false, false, false, false] (by kernel_rfl) rfl rfl ⟨b0, b1, b2, b3, x0, x1, x2, x3⟩ (fun hHeld => ?_)
      refine pure_ (i := 1) (N := some 20) (v := ?_) (a' := ?_) #[false, true, false, false, false, false, false] rfl rfl (by kernel_rfl) (fun _ _ _ h => h) (Or.inl ⟨by rfl, ?_⟩) ?_ ?_
      rotate_left; (· intro w'; go_simp; with_reducible rfl); rotate_left; (· simp only [Act.put, sA, sB, sC]; rfl)
      refine pure_ (i := 2) (N := some 21) (v := ?_) (a' := ?_) #[false, true, true, false, false, false, false] rfl rfl (by kernel_rfl) (fun _ _ _ h => h) (Or.inl ⟨by rfl, ?_⟩) ?_ ?_
      rotate_left; (· intro w'; go_simp; with_reducible rfl); rotate_left; (· simp only [Act.put, sA, sB, sC]; rfl)
      refine pure_ (i := 3) (N := some 22) (v := ?_) (a' := ?_) #[false, true, true, true, false, false, false] rfl rfl (by kernel_rfl) (fun _ _ _ h => h) (Or.inl ⟨by rfl, ?_⟩) ?_ ?_
      rotate_left; (· intro w'; go_simp; with_reducible rfl); rotate_left; (· simp only [Act.put, sA, sB, sC]; rfl)
      refine take_ (i := 0) (N := some 19) (v := ?_) (a' := ?_) #[true, true, true, true, false, false, false] rfl rfl (by kernel_rfl) (fun _ _ _ h => h) (Or.inl ⟨by rfl, ?_⟩) hHeld ?_ ?_
      rotate_left; (· rintro w' ⟨s0, s1, s2, s3, s4, s5, s6, s7⟩; go_simp; with_reducible rfl); rotate_left; (· simp only [Act.put, sA, sB, sC]; rfl)
      refine take_ (i := 4) (N := some 23) (v := ?_) (a' := ?_) #[true, true, true, true, true, false, false] rfl rfl (by kernel_rfl) (fun _ _ _ h => h) (Or.inl ⟨by rfl, ?_⟩) hHeld ?_ ?_
      rotate_left; (· rintro w' ⟨s0, s1, s2, s3, s4, s5, s6, s7⟩; go_simp; with_reducible rfl); rotate_left; (· simp only [Act.put, sA, sB, sC]; rfl)
      refine last_ (i := 5) (N := some 24) #[true, true, true, true, true, true, false] rfl rfl (by kernel_rfl) (by decide) (fun K hK => ?_)
      refine goes_ Tryz.func25 (by kernel_rfl) rfl #[.agg #[.int .i64 k1, .int .i64 d1, .slice A1 n1 c1, .slice K1 m1 e1], .agg #[.int .i64 k2, .int .i64 d2, .slice A2 n2 c2, .slice K2 m2 e2]] (by rfl) rfl rfl (by simp only [List.map_toArray, List.map_cons, List.map_nil]; rfl) ?_
      with_reducible refine (HCALL.out).mono ?_
      rintro e w2 ⟨rfl, q2⟩
      refine ⟨_, rfl, ?_⟩
      refine hK.out _ _ ?_
      clear hK K
      refine norm_ (a' := ?_) ?_ ?_
      rotate_left
      · show Act.put _ (some 24) _ = _
        simp only [Act.put, sA, sB, sC]
        rfl
      refine pure_ (i := 6) (N := some 25) (v := ?_) (a' := ?_) #[true, true, true, true, true, true, true] rfl rfl (by kernel_rfl) (fun _ _ _ h => h) (Or.inl ⟨by rfl, ?_⟩) ?_ ?_
      rotate_left; (· intro w'; go_simp; with_reducible rfl); rotate_left; (· simp only [Act.put, sA, sB, sC]; rfl)
      refine done_ (by kernel_rfl) ?_
      have HB3 := Hd (HB2.out.trans (q2.mono HB2.out.size))
      clear q2 a0 a1 a2 a3 b0 b1 b2 b3 x0 x1 x2 x3
      go_wp2
      go_roundw
      case rel => exact ⟨q + 1, by omega, by go_num, HB3.out⟩
      case measure => simp [intOf]; omega
    · obtain rfl : m = q := by omega
      have HBR := Hd hbr
      clear hbr
      go_wp2
      go_ret
      exact ⟨rfl, HBR.out⟩

set_option maxRecDepth 100000 in
theorem SameGeom_of {k d : Int} {ns : List Nat} {ks : List Gm} (hn : ns.length ≤ 1000000) (hm : ks.length ≤ 1000000) (ih : ∀ t ∈ ks, SameG t) : SameG (.mk k d ns ks) := by
  intro W ok1 ok2 k1 d1 k2 d2 A1 K1 A2 K2 n1 m1 c1 e1 n2 m2 c2 e2 h1 h2
  obtain ⟨rfl, rfl⟩ : k1 = k ∧ d1 = d := by
    obtain ⟨A, KA, n, m, c, c', e⟩ := gm_shape h1
    simp only [List.cons.injEq, Value.int.injEq, true_and] at e
    exact ⟨e.1, e.2.1⟩
  obtain ⟨rfl, rfl⟩ : k2 = k1 ∧ d2 = d1 := by
    obtain ⟨A, KA, n, m, c, c', e⟩ := gm_shape h2
    simp only [List.cons.injEq, Value.int.injEq, true_and] at e
    exact ⟨e.1, e.2.1⟩
  obtain ⟨en1, hn1, hb⟩ := h1.numsOf
  obtain ⟨en2, hn2, -⟩ := h2.numsOf
  obtain rfl : n1 = n2 := by omega
  have hk1 : (k2 == k2) = true := beq_self_eq_true _
  have hd1 : (d2 == d2) = true := beq_self_eq_true _
  have b2 : Below W.heap.size W ((W.alloc (.cells #[.int .i64 k2, .int .i64 d2, .slice A1 n1 c1, .slice K1 m1 e1] 25)).alloc (.cells #[.int .i64 k2, .int .i64 d2, .slice A2 n1 c2, .slice K2 m2 e2] 25)) := ((Below.refl _ _).alloc (Nat.le_refl _) _).alloc (by simp) _
  have hA : ∀ {w : World} {A : Option Addr} (_ : Below W.heap.size W w), (0 < n1 → ∃ g, A = some ⟨g, 0, none⟩ ∧ (∃ _ : True, True) ∧ ∀ j, j < n1 → W.cell? ⟨g, j, none⟩ = some (.float .f64 (ns.getD j 0))) → NumOn w A n1 ns := fun hb h => ⟨en1, fun h0 => by
    obtain ⟨g, e, -, hc⟩ := h h0
    have hl := cell_lt (hc 0 h0)
    exact ⟨g, e, Nat.lt_of_lt_of_le hl hb.size, fun j hj => (hb.cell (p := ⟨g, j, none⟩) hl).trans (hc j hj)⟩⟩
  have HN := Hd (SameNums_any (c := c1) (c2 := c2) ((W.alloc (.cells #[.int .i64 k2, .int .i64 d2, .slice A1 n1 c1, .slice K1 m1 e1] 25)).alloc (.cells #[.int .i64 k2, .int .i64 d2, .slice A2 n1 c2, .slice K2 m2 e2] 25)) (by omega) hb (hA b2 (fun h0 => by obtain ⟨g, e, _, hc⟩ := hn1 h0; exact ⟨g, e, ⟨trivial, trivial⟩, hc⟩)) (hA b2 (fun h0 => by obtain ⟨g, e, _, hc⟩ := hn2 h0; exact ⟨g, e, ⟨trivial, trivial⟩, hc⟩)))
  have x1 := (Blk.new W 25 #[.int .i64 k2, .int .i64 d2, .slice A1 n1 c1, .slice K1 m1 e1]).alloc (.cells #[.int .i64 k2, .int .i64 d2, .slice A2 n1 c2, .slice K2 m2 e2] 25)
  have x2 := Blk.new (W.alloc (.cells #[.int .i64 k2, .int .i64 d2, .slice A1 n1 c1, .slice K1 m1 e1] 25)) 25 #[.int .i64 k2, .int .i64 d2, .slice A2 n1 c2, .slice K2 m2 e2]
  rw [World.size_alloc] at x2
  have X1 := Hd x1
  have X2 := Hd x2
  have B2 := Hd b2
  have HG : Hid (∀ w, Below W.heap.size W w → Calls Tryz.prog 46 #[.slice K1 m1 e1, .slice K2 m2 e2] w fun e w' => e = .returned (.bool true) ∧ Below w.heap.size w w') := Hd (fun w hw => SameGeoms_of (by have := h1.kidsOf.1; omega) ih (GmOn.keeps _ _ _ (fun b => b < W.heap.size) _ _ h1 (fun b _ hl => hw.block b hl) (fun b _ hl => hl)) (GmOn.keeps _ _ _ (fun b => b < W.heap.size) _ _ h2 (fun b _ hl => hw.block b hl) (fun b _ hl => hl)))
  clear h1 h2 hn1 hn2 hb ih x1 x2 b2 hA en1 en2
  go_enter Tryz.func25, Tryz.ntmps25
  go_wp2_with fail
  refine HN.out.mono ?_
  rintro e w3 ⟨rfl, b3⟩
  have s3 : W.heap.size + 2 ≤ w3.heap.size := by have := b3.size; simpa using this
  have B3 := Hd (B2.out.trans (b3.mono B2.out.size))
  have i1 := (X1.out.below b3 X1.out.lt).cell 3
  have i2 := (X2.out.below b3 X2.out.lt).cell 3
  simp at i1 i2
  have HC := Hd (HG.out w3 B3.out)
  clear b3
  go_wp2_with fail
  refine HC.out.mono ?_
  rintro e w4 ⟨rfl, b4⟩
  have B4 := Hd (B3.out.trans (b4.mono B3.out.size))
  clear b4
  go_wp2
  go_ret
  exact ⟨rfl, B4.out⟩

theorem SameG_all : ∀ t : Gm, t.sz ≤ 1000000 → SameG t
  | .mk k d ns ks => fun h => by
    have h2 := szs_len ks
    unfold Gm.sz at h
    refine SameGeom_of (by omega) (by omega) (fun t ht => SameG_all t ?_)
    have := sz_mem ht
    omega

end Go.Proofs.YtofdccmmagcamaaGreatDoor
