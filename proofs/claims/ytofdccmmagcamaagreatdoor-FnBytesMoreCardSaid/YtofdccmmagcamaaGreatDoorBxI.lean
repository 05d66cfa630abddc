import Derived.Test.YtofdccmmagcamaaGreatDoorMhO
import Derived.Test.YtofdccmmagcamaaGreatDoorShB
import Derived.Test.YtofdccmmagcamaaGreatDoorMhB
import Derived.Test.YtofdccmmagcamaaGreatDoorWLast
import Derived.BigRegion
/- The parser of bytes: a byte, the order, numbers. -/
set_option maxHeartbeats 8000000
set_option linter.unusedSimpArgs false
set_option linter.unusedVariables false
namespace Go.Proofs.YtofdccmmagcamaaGreatDoor
open Go.RowKit Go.Proofs.YtofdccmmagcamaaGreatDoorW.PrintLast

attribute [local go_sem] run_store_float

theorem Wp.set0 {W : World} {B p : Nat} {bo : Int} {no : Bool} {bs a : List Int} {g o n c k : Nat} (hp : B ≤ p) (hx : Blk W p 142 #[.slice (some ⟨g, o, none⟩) n c, .int .u8 bo, .bool no]) (hy : By W B g o n c (a ++ bs)) (hk : a.length = k) :
    Wp (W.setCell ⟨p, 0, none⟩ (.slice (some ⟨g, cutO o c k, none⟩) (n - k) (c - k))) B p bo no bs :=
  ⟨hp, g, cutO o c k, n - k, c - k, by simpa using hx.set_ 0 (.slice (some ⟨g, cutO o c k, none⟩) (n - k) (c - k)), by
    have h := hy.cutO hk
    exact ⟨h.1, h.2.1, h.2.2.1, fun j b hj => (World.cell?_setCell_other W ⟨p, 0, none⟩ _ _ (fun e => by have := congrArg Addr.block e; have h3 := h.2.2.1; simp at this; omega)).trans (h.2.2.2 j b hj)⟩⟩

theorem grown_set {W : World} {p j : Nat} (u : Value) : W.grownBy (W.setCell ⟨p, j, none⟩ u) (some p) := only_setCell (World.grownBy.refl W _) (.inl rfl) u
/-- The slice behind the first k bytes, in the two forms that the walk prints. -/
theorem Wp.cut_lt {W : World} {B p : Nat} {bo : Int} {no : Bool} {bs a : List Int} {g o n c k : Nat} (hp : B ≤ p) (hx : Blk W p 142 #[.slice (some ⟨g, o, none⟩) n c, .int .u8 bo, .bool no]) (hy : By W B g o n c (a ++ bs)) (hk : a.length = k) (hc : ¬ c = k) :
    Wp (W.setCell ⟨p, 0, none⟩ (.slice (some ⟨g, o + k, none⟩) (n - k) (c - k))) B p bo no bs := by
  have h := Wp.set0 hp hx hy hk
  rwa [cutO, if_neg hc] at h
theorem Wp.cut_eq {W : World} {B p : Nat} {bo : Int} {no : Bool} {bs a : List Int} {g o n k : Nat} (hp : B ≤ p) (hx : Blk W p 142 #[.slice (some ⟨g, o, none⟩) n k, .int .u8 bo, .bool no]) (hy : By W B g o n k (a ++ bs)) (hk : a.length = k) :
    Wp (W.setCell ⟨p, 0, none⟩ (.slice (some ⟨g, o, none⟩) (n - k) 0)) B p bo no bs := by
  have h := Wp.set0 hp hx hy hk
  rwa [cutO, if_pos rfl, Nat.sub_self] at h

set_option maxRecDepth 100000 in
theorem readByte_any {W : World} {B p : Nat} {bo b : Int} {no : Bool} {bs : List Int} (h : Wp W B p bo no (b :: bs)) :
    Calls Tryz.prog 177 #[.pointer (some ⟨p, 0, none⟩)] W fun e w' => e = .returned (.tuple #[.int .u8 b, .nilIface]) ∧ Wp w' B p bo no bs ∧ W.grownBy w' (some p) := by
  obtain ⟨hp, g, o, n, c, hx, hy⟩ := h
  have hn : 1 ≤ n := by have := hy.1; simp at this; omega
  have hnc := hy.2.1
  have c0 := hx.cell 0
  have z0 := hx.frozen 0
  have d0 := hy.2.2.2 0 b rfl
  rw [Nat.add_zero] at d0
  simp at c0
  have hd : ((n : Int) == 0) = false := by rw [beq_eq_false_iff_ne]; omega
  have HX := Hd hx
  have HY := Hd hy
  clear hx hy
  go_enter Tryz.func177, Tryz.ntmps177
  go_wp2
  all_goals go_returns
  · subst h
    exact ⟨rfl, Wp.cut_eq (a := [b]) hp HX.out HY.out rfl, grown_set _⟩
  · exact ⟨rfl, Wp.cut_lt (a := [b]) hp HX.out HY.out rfl (by assumption), grown_set _⟩


theorem Wp.set1 {W : World} {B p : Nat} {bo bo' : Int} {no : Bool} {bs : List Int} (h : Wp W B p bo no bs) : Wp (W.setCell ⟨p, 1, none⟩ (.int .u8 bo')) B p bo' no bs := by
  obtain ⟨hp, g, o, n, c, hx, hy⟩ := h
  refine ⟨hp, g, o, n, c, by simpa using hx.set_ 1 (.int .u8 bo'), hy.1, hy.2.1, hy.2.2.1, fun j b hj => ?_⟩
  exact (World.cell?_setCell_other W ⟨p, 1, none⟩ _ _ (fun e => by have := congrArg Addr.block e; have h3 := hy.2.2.1; simp at this; omega)).trans (hy.2.2.2 j b hj)
theorem Wp.set2 {W : World} {B p : Nat} {bo : Int} {no no' : Bool} {bs : List Int} (h : Wp W B p bo no bs) : Wp (W.setCell ⟨p, 2, none⟩ (.bool no')) B p bo no' bs := by
  obtain ⟨hp, g, o, n, c, hx, hy⟩ := h
  refine ⟨hp, g, o, n, c, by simpa using hx.set_ 2 (.bool no'), hy.1, hy.2.1, hy.2.2.1, fun j b hj => ?_⟩
  exact (World.cell?_setCell_other W ⟨p, 2, none⟩ _ _ (fun e => by have := congrArg Addr.block e; have h3 := hy.2.2.1; simp at this; omega)).trans (hy.2.2.2 j b hj)

set_option maxRecDepth 100000 in
theorem parseByteOrder_any {W : World} {B p : Nat} {bo : Int} {no : Bool} (big : Bool) {bs : List Int} (h : Wp W B p bo no ((if big then 0 else 1) :: bs)) :
    Calls Tryz.prog 142 #[.pointer (some ⟨p, 0, none⟩)] W fun e w' => e = .returned .nilIface ∧ Wp w' B p (if big then 0 else 1) (!big) bs ∧ W.grownBy w' (some p) := by
  have HR := Hd (readByte_any h)
  clear h
  go_enter Tryz.func142, Tryz.ntmps142
  go_wp2_with fail
  refine HR.out.mono ?_
  rintro e w1 ⟨rfl, h1, g1⟩
  clear HR
  have h2 := h1.set1 (bo' := if big then 0 else 1)
  have h3 := h2.set2 (no' := !big)
  have g3 : W.grownBy ((w1.setCell ⟨p, 1, none⟩ (.int .u8 (if big then 0 else 1))).setCell ⟨p, 2, none⟩ (.bool (!big))) (some p) := (g1.trans (grown_set _)).trans (grown_set _)
  have z1 : w1.frozen? ⟨p, 1, none⟩ = false ∧ (∃ u, w1.cell? ⟨p, 1, none⟩ = some u) := by
    obtain ⟨-, g, o, n, c, hx, -⟩ := h1
    exact ⟨hx.frozen 1, _, (hx.cell 1).trans rfl⟩
  have z2 : (w1.setCell ⟨p, 1, none⟩ (.int .u8 (if big then 0 else 1))).frozen? ⟨p, 2, none⟩ = false ∧ (∃ u, (w1.setCell ⟨p, 1, none⟩ (.int .u8 (if big then 0 else 1))).cell? ⟨p, 2, none⟩ = some u) := by
    obtain ⟨-, g, o, n, c, hx, -⟩ := h2
    exact ⟨hx.frozen 2, _, (hx.cell 2).trans rfl⟩
  obtain ⟨z1, u1, c1⟩ := z1
  obtain ⟨z2, u2, c2⟩ := z2
  have H3 := Hd h3
  have G3 := Hd g3
  clear h1 h2 h3 g1 g3
  cases big
  · simp only [Bool.false_eq_true, if_false] at z2 c2
    go_wp2
    go_ret
    exact ⟨rfl, H3.out, G3.out⟩
  · simp only [if_true] at z2 c2
    go_wp2
    go_ret
    exact ⟨rfl, H3.out, G3.out⟩


theorem Wp.four {W : World} {B p : Nat} {bo : Int} {no : Bool} (big : Bool) {bs : List Int} {x : Nat} (hx : x < 4294967296) (h : Wp W B p bo no (uB big 4 x ++ bs)) : ∃ (g o n c : Nat) (b0 b1 b2 b3 : UInt8), Blk W p 142 #[.slice (some ⟨g, o, none⟩) n c, .int .u8 bo, .bool no] ∧ By W B g o n c (uB big 4 x ++ bs) ∧
    rdB big [b0, b1, b2, b3] = x ∧ 4 ≤ n ∧ n ≤ c ∧ B ≤ p ∧ g < B ∧ W.cell? ⟨g, o, none⟩ = some (.int .u8 b0.toNat) ∧ W.cell? ⟨g, o + 1, none⟩ = some (.int .u8 b1.toNat) ∧ W.cell? ⟨g, o + 2, none⟩ = some (.int .u8 b2.toNat) ∧ W.cell? ⟨g, o + 3, none⟩ = some (.int .u8 b3.toNat) := by
  obtain ⟨hp, g, o, n, c, h1, h2⟩ := h
  obtain ⟨b0, b1, b2, b3, e, r⟩ := uB_four big x hx
  have k := h2.2.2.2
  have hl := h2.1
  rw [List.length_append, uB_length] at hl
  rw [e] at k
  exact ⟨g, o, n, c, b0, b1, b2, b3, h1, h2, r, by omega, h2.2.1, hp, h2.2.2.1, k 0 _ rfl, k 1 _ rfl, k 2 _ rfl, k 3 _ rfl⟩

set_option maxRecDepth 100000 in
theorem parseUint32_any {W : World} {B p : Nat} {no : Bool} (big : Bool) {bs : List Int} (x : Nat) (hx : x < 4294967296) (h : Wp W B p (if big then 0 else 1) no (uB big 4 x ++ bs)) :
    Calls Tryz.prog 178 #[.pointer (some ⟨p, 0, none⟩)] W fun e w' => e = .returned (.tuple #[.int .u32 x, .nilIface]) ∧ Wp w' B p (if big then 0 else 1) no bs ∧ W.grownBy w' (some p) := by
  obtain ⟨g, o, n, c, b0, b1, b2, b3, h1, h2, hr, hn, hnc, hp, hgB, k0, k1, k2, k3⟩ := h.four big hx
  clear h
  have c0 := h1.cell 0
  have c1 := h1.cell 1
  have z0 := h1.frozen 0
  simp at c0 c1
  have hd : decide ((n : Int) < 4) = false := by rw [decide_eq_false_iff_not]; omega
  have HX := Hd h1
  have HY := Hd h2
  have HR := Hd hr
  have HUL := Hd (uB_length big 4 x)
  clear h1 h2 hr
  cases big
  · simp only [Bool.false_eq_true, if_false] at c1
    go_enter Tryz.func178, Tryz.ntmps178
    go_wp2
    have HC := Hd (Tryz.binary_LE_Uint32 g o n c b0 b1 b2 b3 W.drew hn (by exact k0) (by exact k1) (by exact k2) (by exact k3))
    refine start_ (n := 7) (S := fun w' => w'.cell? ⟨p, 0, none⟩ = some (.slice (some ⟨g, o, none⟩) n c)) (ds := []) #[false, false, false, false, false, false, false] (by kernel_rfl) rfl rfl (c0) (fun hHeld => ?_)
    refine pure_ (i := 1) (N := some 25) (v := ?_) (a' := ?_) #[false, true, false, false, false, false, false] rfl rfl (by kernel_rfl) (fun _ _ _ h => h) (Or.inl ⟨by rfl, ?_⟩) ?_ ?_
    rotate_left; (· intro w'; go_simp; with_reducible rfl); rotate_left; (· simp only [Act.put, sA, sB, sC]; rfl)
    refine pure_ (i := 2) (N := some 26) (v := ?_) (a' := ?_) #[false, true, true, false, false, false, false] rfl rfl (by kernel_rfl) (fun _ _ _ h => h) (Or.inl ⟨by rfl, ?_⟩) ?_ ?_
    rotate_left; (· intro w'; go_simp; with_reducible rfl); rotate_left; (· simp only [Act.put, sA, sB, sC]; rfl)
    refine pure_ (i := 3) (N := some 27) (v := ?_) (a' := ?_) #[false, true, true, true, false, false, false] rfl rfl (by kernel_rfl) (fun _ _ _ h => h) (Or.inl ⟨by rfl, ?_⟩) ?_ ?_
    rotate_left; (· intro w'; go_simp; with_reducible rfl); rotate_left; (· simp only [Act.put, sA, sB, sC]; rfl)
    refine take_ (i := 0) (N := some 24) (v := ?_) (a' := ?_) #[true, true, true, true, false, false, false] rfl rfl (by kernel_rfl) (fun _ _ _ h => h) (Or.inl ⟨by rfl, ?_⟩) hHeld ?_ ?_
    rotate_left
    · intro w' s0
      go_simp
      with_reducible rfl
    rotate_left
    · simp only [Act.put, sA, sB, sC]
      rfl
    refine take_ (i := 4) (N := some 28) (v := ?_) (a' := ?_) #[true, true, true, true, true, false, false] rfl rfl (by kernel_rfl) (fun _ _ _ h => h) (Or.inl ⟨by rfl, ?_⟩) hHeld ?_ ?_
    rotate_left
    · intro w' s0
      go_simp
      with_reducible rfl
    rotate_left
    · simp only [Act.put, sA, sB, sC]
      rfl
    refine one_ (i := 5) (N := some 29) #[true, true, true, true, true, true, false] rfl rfl (by kernel_rfl) (by decide) (fun K hK => ?_)
    refine goes_ Tryz.func211 (by kernel_rfl) rfl #[.agg #[], .slice (some ⟨g, o, none⟩) n c] (by rfl) rfl rfl (by simp only [List.map_toArray, List.map_cons, List.map_nil]; rfl) ?_
    with_reducible refine (HC.out).mono ?_
    rintro e w2 ⟨rfl, q2⟩
    refine ⟨_, rfl, ?_⟩
    have x2 : Blk w2 p 142 #[.slice (some ⟨g, o, none⟩) n c, .int .u8 (if false = true then 0 else 1), .bool no] := HX.out.drew.below q2 HX.out.lt
    have HX2 := Hd x2
    clear x2
    refine hK.out _ _ ((HX2.out.cell 0).trans rfl) (fun hHeld => ?_)
    clear hK K
    refine norm_ (a' := ?_) ?_ ?_
    rotate_left
    · show Act.put _ (some 29) _ = _
      simp only [Act.put, sA, sB, sC]
      rfl
    refine pure_ (i := 6) (N := some 4) (v := ?_) (a' := ?_) #[true, true, true, true, true, true, true] rfl rfl (by kernel_rfl) (fun _ _ _ h => h) (Or.inl ⟨by rfl, ?_⟩) ?_ ?_
    rotate_left; (· intro w'; go_simp; with_reducible rfl); rotate_left; (· simp only [Act.put, sA, sB, sC]; rfl)
    refine done_ (by kernel_rfl) ?_
    have e2 : Lib.leNat [b0, b1, b2, b3] = x := HR.out
    have y2 : By w2 B g o n c (uB false 4 x ++ bs) := HY.out.below ((Below.drew (Below.refl B W)).trans (q2.mono (by have := HX.out.lt; show B ≤ W.heap.size; omega)))
    have g2 : W.grownBy w2 (some p) := World.grownBy.trans (only_drew (World.grownBy.refl W _)) (only_of_below q2 _)
    have d0 := HX2.out.cell 0
    have z2 := HX2.out.frozen 0
    simp at d0
    have HY2 := Hd y2
    have HG2 := Hd g2
    have HE2 := Hd e2
    clear y2 g2 q2 e2 c0 c1 z0 k0 k1 k2 k3
    go_wp2
    all_goals go_returns
    · subst h
      exact ⟨by rw [HE2.out]; rfl, Wp.cut_eq hp HX2.out HY2.out HUL.out, HG2.out.trans (grown_set _)⟩
    · exact ⟨by rw [HE2.out]; rfl, Wp.cut_lt hp HX2.out HY2.out HUL.out (by assumption), HG2.out.trans (grown_set _)⟩
  · simp only [if_true] at c1
    go_enter Tryz.func178, Tryz.ntmps178
    go_wp2
    have HC := Hd (Tryz.binary_BE_Uint32 g o n c b0 b1 b2 b3 W.drew hn (by exact k0) (by exact k1) (by exact k2) (by exact k3))
    refine start_ (n := 7) (S := fun w' => w'.cell? ⟨p, 0, none⟩ = some (.slice (some ⟨g, o, none⟩) n c)) (ds := []) #[false, false, false, false, false, false, false] (by kernel_rfl) rfl rfl (c0) (fun hHeld => ?_)
    refine pure_ (i := 1) (N := some 19) (v := ?_) (a' := ?_) #[false, true, false, false, false, false, false] rfl rfl (by kernel_rfl) (fun _ _ _ h => h) (Or.inl ⟨by rfl, ?_⟩) ?_ ?_
    rotate_left; (· intro w'; go_simp; with_reducible rfl); rotate_left; (· simp only [Act.put, sA, sB, sC]; rfl)
    refine pure_ (i := 2) (N := some 20) (v := ?_) (a' := ?_) #[false, true, true, false, false, false, false] rfl rfl (by kernel_rfl) (fun _ _ _ h => h) (Or.inl ⟨by rfl, ?_⟩) ?_ ?_
    rotate_left; (· intro w'; go_simp; with_reducible rfl); rotate_left; (· simp only [Act.put, sA, sB, sC]; rfl)
    refine pure_ (i := 3) (N := some 21) (v := ?_) (a' := ?_) #[false, true, true, true, false, false, false] rfl rfl (by kernel_rfl) (fun _ _ _ h => h) (Or.inl ⟨by rfl, ?_⟩) ?_ ?_
    rotate_left; (· intro w'; go_simp; with_reducible rfl); rotate_left; (· simp only [Act.put, sA, sB, sC]; rfl)
    refine take_ (i := 0) (N := some 18) (v := ?_) (a' := ?_) #[true, true, true, true, false, false, false] rfl rfl (by kernel_rfl) (fun _ _ _ h => h) (Or.inl ⟨by rfl, ?_⟩) hHeld ?_ ?_
    rotate_left
    · intro w' s0
      go_simp
      with_reducible rfl
    rotate_left
    · simp only [Act.put, sA, sB, sC]
      rfl
    refine take_ (i := 4) (N := some 22) (v := ?_) (a' := ?_) #[true, true, true, true, true, false, false] rfl rfl (by kernel_rfl) (fun _ _ _ h => h) (Or.inl ⟨by rfl, ?_⟩) hHeld ?_ ?_
    rotate_left
    · intro w' s0
      go_simp
      with_reducible rfl
    rotate_left
    · simp only [Act.put, sA, sB, sC]
      rfl
    refine one_ (i := 5) (N := some 23) #[true, true, true, true, true, true, false] rfl rfl (by kernel_rfl) (by decide) (fun K hK => ?_)
    refine goes_ Tryz.func210 (by kernel_rfl) rfl #[.agg #[], .slice (some ⟨g, o, none⟩) n c] (by rfl) rfl rfl (by simp only [List.map_toArray, List.map_cons, List.map_nil]; rfl) ?_
    with_reducible refine (HC.out).mono ?_
    rintro e w2 ⟨rfl, q2⟩
    refine ⟨_, rfl, ?_⟩
    have x2 : Blk w2 p 142 #[.slice (some ⟨g, o, none⟩) n c, .int .u8 (if true = true then 0 else 1), .bool no] := HX.out.drew.below q2 HX.out.lt
    have HX2 := Hd x2
    clear x2
    refine hK.out _ _ ((HX2.out.cell 0).trans rfl) (fun hHeld => ?_)
    clear hK K
    refine norm_ (a' := ?_) ?_ ?_
    rotate_left
    · show Act.put _ (some 23) _ = _
      simp only [Act.put, sA, sB, sC]
      rfl
    refine pure_ (i := 6) (N := some 4) (v := ?_) (a' := ?_) #[true, true, true, true, true, true, true] rfl rfl (by kernel_rfl) (fun _ _ _ h => h) (Or.inl ⟨by rfl, ?_⟩) ?_ ?_
    rotate_left; (· intro w'; go_simp; with_reducible rfl); rotate_left; (· simp only [Act.put, sA, sB, sC]; rfl)
    refine done_ (by kernel_rfl) ?_
    have e2 : Lib.beNat [b0, b1, b2, b3] = x := HR.out
    have y2 : By w2 B g o n c (uB true 4 x ++ bs) := HY.out.below ((Below.drew (Below.refl B W)).trans (q2.mono (by have := HX.out.lt; show B ≤ W.heap.size; omega)))
    have g2 : W.grownBy w2 (some p) := World.grownBy.trans (only_drew (World.grownBy.refl W _)) (only_of_below q2 _)
    have d0 := HX2.out.cell 0
    have z2 := HX2.out.frozen 0
    simp at d0
    have HY2 := Hd y2
    have HG2 := Hd g2
    have HE2 := Hd e2
    clear y2 g2 q2 e2 c0 c1 z0 k0 k1 k2 k3
    go_wp2
    all_goals go_returns
    · subst h
      exact ⟨by rw [HE2.out]; rfl, Wp.cut_eq hp HX2.out HY2.out HUL.out, HG2.out.trans (grown_set _)⟩
    · exact ⟨by rw [HE2.out]; rfl, Wp.cut_lt hp HX2.out HY2.out HUL.out (by assumption), HG2.out.trans (grown_set _)⟩

theorem Wp.eight {W : World} {B p : Nat} {bo : Int} {no : Bool} (big : Bool) {bs : List Int} {x : Nat} (hx : x < 18446744073709551616) (h : Wp W B p bo no (uB big 8 x ++ bs)) : ∃ (g o n c : Nat) (b0 b1 b2 b3 b4 b5 b6 b7 : UInt8), Blk W p 142 #[.slice (some ⟨g, o, none⟩) n c, .int .u8 bo, .bool no] ∧ By W B g o n c (uB big 8 x ++ bs) ∧
    rdB big [b0, b1, b2, b3, b4, b5, b6, b7] = x ∧ 8 ≤ n ∧ n ≤ c ∧ B ≤ p ∧ g < B ∧ W.cell? ⟨g, o, none⟩ = some (.int .u8 b0.toNat) ∧ W.cell? ⟨g, o + 1, none⟩ = some (.int .u8 b1.toNat) ∧ W.cell? ⟨g, o + 2, none⟩ = some (.int .u8 b2.toNat) ∧ W.cell? ⟨g, o + 3, none⟩ = some (.int .u8 b3.toNat) ∧ W.cell? ⟨g, o + 4, none⟩ = some (.int .u8 b4.toNat) ∧ W.cell? ⟨g, o + 5, none⟩ = some (.int .u8 b5.toNat) ∧ W.cell? ⟨g, o + 6, none⟩ = some (.int .u8 b6.toNat) ∧ W.cell? ⟨g, o + 7, none⟩ = some (.int .u8 b7.toNat) := by
  obtain ⟨hp, g, o, n, c, h1, h2⟩ := h
  obtain ⟨b0, b1, b2, b3, b4, b5, b6, b7, e, r⟩ := uB_eight big x hx
  have k := h2.2.2.2
  have hl := h2.1
  rw [List.length_append, uB_length] at hl
  rw [e] at k
  exact ⟨g, o, n, c, b0, b1, b2, b3, b4, b5, b6, b7, h1, h2, r, by omega, h2.2.1, hp, h2.2.2.1, k 0 _ rfl, k 1 _ rfl, k 2 _ rfl, k 3 _ rfl, k 4 _ rfl, k 5 _ rfl, k 6 _ rfl, k 7 _ rfl⟩

set_option maxRecDepth 100000 in
theorem parseFloat64_any {W : World} {B p : Nat} {no : Bool} (big : Bool) {bs : List Int} (x : Nat) (hx : x < 18446744073709551616) (h : Wp W B p (if big then 0 else 1) no (uB big 8 x ++ bs)) :
    Calls Tryz.prog 212 #[.pointer (some ⟨p, 0, none⟩)] W fun e w' => e = .returned (.tuple #[.float .f64 x, .nilIface]) ∧ Wp w' B p (if big then 0 else 1) no bs ∧ W.grownBy w' (some p) := by
  obtain ⟨g, o, n, c, b0, b1, b2, b3, b4, b5, b6, b7, h1, h2, hr, hn, hnc, hp, hgB, k0, k1, k2, k3, k4, k5, k6, k7⟩ := h.eight big hx
  clear h
  have c0 := h1.cell 0
  have c1 := h1.cell 1
  have z0 := h1.frozen 0
  simp at c0 c1
  have hd : decide ((n : Int) < 8) = false := by rw [decide_eq_false_iff_not]; omega
  have HX := Hd h1
  have HY := Hd h2
  have HR := Hd hr
  have HUL := Hd (uB_length big 8 x)
  clear h1 h2 hr
  cases big
  · simp only [Bool.false_eq_true, if_false] at c1
    go_enter Tryz.func212, Tryz.ntmps212
    go_wp2
    have HC := Hd (Tryz.binary_LE_Uint64 g o n c b0 b1 b2 b3 b4 b5 b6 b7 W.drew hn (by exact k0) (by exact k1) (by exact k2) (by exact k3) (by exact k4) (by exact k5) (by exact k6) (by exact k7))
    refine start_ (n := 7) (S := fun w' => w'.cell? ⟨p, 0, none⟩ = some (.slice (some ⟨g, o, none⟩) n c)) (ds := []) #[false, false, false, false, false, false, false] (by kernel_rfl) rfl rfl (c0) (fun hHeld => ?_)
    refine pure_ (i := 1) (N := some 25) (v := ?_) (a' := ?_) #[false, true, false, false, false, false, false] rfl rfl (by kernel_rfl) (fun _ _ _ h => h) (Or.inl ⟨by rfl, ?_⟩) ?_ ?_
    rotate_left; (· intro w'; go_simp; with_reducible rfl); rotate_left; (· simp only [Act.put, sA, sB, sC]; rfl)
    refine pure_ (i := 2) (N := some 26) (v := ?_) (a' := ?_) #[false, true, true, false, false, false, false] rfl rfl (by kernel_rfl) (fun _ _ _ h => h) (Or.inl ⟨by rfl, ?_⟩) ?_ ?_
    rotate_left; (· intro w'; go_simp; with_reducible rfl); rotate_left; (· simp only [Act.put, sA, sB, sC]; rfl)
    refine pure_ (i := 3) (N := some 27) (v := ?_) (a' := ?_) #[false, true, true, true, false, false, false] rfl rfl (by kernel_rfl) (fun _ _ _ h => h) (Or.inl ⟨by rfl, ?_⟩) ?_ ?_
    rotate_left; (· intro w'; go_simp; with_reducible rfl); rotate_left; (· simp only [Act.put, sA, sB, sC]; rfl)
    refine take_ (i := 0) (N := some 24) (v := ?_) (a' := ?_) #[true, true, true, true, false, false, false] rfl rfl (by kernel_rfl) (fun _ _ _ h => h) (Or.inl ⟨by rfl, ?_⟩) hHeld ?_ ?_
    rotate_left
    · intro w' s0
      go_simp
      with_reducible rfl
    rotate_left
    · simp only [Act.put, sA, sB, sC]
      rfl
    refine take_ (i := 4) (N := some 28) (v := ?_) (a' := ?_) #[true, true, true, true, true, false, false] rfl rfl (by kernel_rfl) (fun _ _ _ h => h) (Or.inl ⟨by rfl, ?_⟩) hHeld ?_ ?_
    rotate_left
    · intro w' s0
      go_simp
      with_reducible rfl
    rotate_left
    · simp only [Act.put, sA, sB, sC]
      rfl
    refine one_ (i := 5) (N := some 29) #[true, true, true, true, true, true, false] rfl rfl (by kernel_rfl) (by decide) (fun K hK => ?_)
    refine goes_ Tryz.func249 (by kernel_rfl) rfl #[.agg #[], .slice (some ⟨g, o, none⟩) n c] (by rfl) rfl rfl (by simp only [List.map_toArray, List.map_cons, List.map_nil]; rfl) ?_
    with_reducible refine (HC.out).mono ?_
    rintro e w2 ⟨rfl, q2⟩
    refine ⟨_, rfl, ?_⟩
    have x2 : Blk w2 p 142 #[.slice (some ⟨g, o, none⟩) n c, .int .u8 (if false = true then 0 else 1), .bool no] := HX.out.drew.below q2 HX.out.lt
    have HX2 := Hd x2
    clear x2
    refine hK.out _ _ ((HX2.out.cell 0).trans rfl) (fun hHeld => ?_)
    clear hK K
    refine norm_ (a' := ?_) ?_ ?_
    rotate_left
    · show Act.put _ (some 29) _ = _
      simp only [Act.put, sA, sB, sC]
      rfl
    refine pure_ (i := 6) (N := some 4) (v := ?_) (a' := ?_) #[true, true, true, true, true, true, true] rfl rfl (by kernel_rfl) (fun _ _ _ h => h) (Or.inl ⟨by rfl, ?_⟩) ?_ ?_
    rotate_left; (· intro w'; go_simp; with_reducible rfl); rotate_left; (· simp only [Act.put, sA, sB, sC]; rfl)
    refine done_ (by kernel_rfl) ?_
    have e2 : Lib.leNat [b0, b1, b2, b3, b4, b5, b6, b7] = x := HR.out
    have y2 : By w2 B g o n c (uB false 8 x ++ bs) := HY.out.below ((Below.drew (Below.refl B W)).trans (q2.mono (by have := HX.out.lt; show B ≤ W.heap.size; omega)))
    have g2 : W.grownBy w2 (some p) := World.grownBy.trans (only_drew (World.grownBy.refl W _)) (only_of_below q2 _)
    have d0 := HX2.out.cell 0
    have z2 := HX2.out.frozen 0
    simp at d0
    have HY2 := Hd y2
    have HG2 := Hd g2
    have HE2 := Hd e2
    clear y2 g2 q2 e2 c0 c1 z0 k0 k1 k2 k3 k4 k5 k6 k7
    have hfb := fun z : Int => run_frombits64 z
    go_wp2
    all_goals go_returns
    · subst h
      exact ⟨by rw [HE2.out]; rfl, Wp.cut_eq hp HX2.out HY2.out HUL.out, HG2.out.trans (grown_set _)⟩
    · exact ⟨by rw [HE2.out]; rfl, Wp.cut_lt hp HX2.out HY2.out HUL.out (by assumption), HG2.out.trans (grown_set _)⟩
  · simp only [if_true] at c1
    go_enter Tryz.func212, Tryz.ntmps212
    go_wp2
    have HC := Hd (Tryz.binary_BE_Uint64 g o n c b0 b1 b2 b3 b4 b5 b6 b7 W.drew hn (by exact k0) (by exact k1) (by exact k2) (by exact k3) (by exact k4) (by exact k5) (by exact k6) (by exact k7))
    refine start_ (n := 7) (S := fun w' => w'.cell? ⟨p, 0, none⟩ = some (.slice (some ⟨g, o, none⟩) n c)) (ds := []) #[false, false, false, false, false, false, false] (by kernel_rfl) rfl rfl (c0) (fun hHeld => ?_)
    refine pure_ (i := 1) (N := some 19) (v := ?_) (a' := ?_) #[false, true, false, false, false, false, false] rfl rfl (by kernel_rfl) (fun _ _ _ h => h) (Or.inl ⟨by rfl, ?_⟩) ?_ ?_
    rotate_left; (· intro w'; go_simp; with_reducible rfl); rotate_left; (· simp only [Act.put, sA, sB, sC]; rfl)
    refine pure_ (i := 2) (N := some 20) (v := ?_) (a' := ?_) #[false, true, true, false, false, false, false] rfl rfl (by kernel_rfl) (fun _ _ _ h => h) (Or.inl ⟨by rfl, ?_⟩) ?_ ?_
    rotate_left; (· intro w'; go_simp; with_reducible rfl); rotate_left; (· simp only [Act.put, sA, sB, sC]; rfl)
    refine pure_ (i := 3) (N := some 21) (v := ?_) (a' := ?_) #[false, true, true, true, false, false, false] rfl rfl (by kernel_rfl) (fun _ _ _ h => h) (Or.inl ⟨by rfl, ?_⟩) ?_ ?_
    rotate_left; (· intro w'; go_simp; with_reducible rfl); rotate_left; (· simp only [Act.put, sA, sB, sC]; rfl)
    refine take_ (i := 0) (N := some 18) (v := ?_) (a' := ?_) #[true, true, true, true, false, false, false] rfl rfl (by kernel_rfl) (fun _ _ _ h => h) (Or.inl ⟨by rfl, ?_⟩) hHeld ?_ ?_
    rotate_left
    · intro w' s0
      go_simp
      with_reducible rfl
    rotate_left
    · simp only [Act.put, sA, sB, sC]
      rfl
    refine take_ (i := 4) (N := some 22) (v := ?_) (a' := ?_) #[true, true, true, true, true, false, false] rfl rfl (by kernel_rfl) (fun _ _ _ h => h) (Or.inl ⟨by rfl, ?_⟩) hHeld ?_ ?_
    rotate_left
    · intro w' s0
      go_simp
      with_reducible rfl
    rotate_left
    · simp only [Act.put, sA, sB, sC]
      rfl
    refine one_ (i := 5) (N := some 23) #[true, true, true, true, true, true, false] rfl rfl (by kernel_rfl) (by decide) (fun K hK => ?_)
    refine goes_ Tryz.func248 (by kernel_rfl) rfl #[.agg #[], .slice (some ⟨g, o, none⟩) n c] (by rfl) rfl rfl (by simp only [List.map_toArray, List.map_cons, List.map_nil]; rfl) ?_
    with_reducible refine (HC.out).mono ?_
    rintro e w2 ⟨rfl, q2⟩
    refine ⟨_, rfl, ?_⟩
    have x2 : Blk w2 p 142 #[.slice (some ⟨g, o, none⟩) n c, .int .u8 (if true = true then 0 else 1), .bool no] := HX.out.drew.below q2 HX.out.lt
    have HX2 := Hd x2
    clear x2
    refine hK.out _ _ ((HX2.out.cell 0).trans rfl) (fun hHeld => ?_)
    clear hK K
    refine norm_ (a' := ?_) ?_ ?_
    rotate_left
    · show Act.put _ (some 23) _ = _
      simp only [Act.put, sA, sB, sC]
      rfl
    refine pure_ (i := 6) (N := some 4) (v := ?_) (a' := ?_) #[true, true, true, true, true, true, true] rfl rfl (by kernel_rfl) (fun _ _ _ h => h) (Or.inl ⟨by rfl, ?_⟩) ?_ ?_
    rotate_left; (· intro w'; go_simp; with_reducible rfl); rotate_left; (· simp only [Act.put, sA, sB, sC]; rfl)
    refine done_ (by kernel_rfl) ?_
    have e2 : Lib.beNat [b0, b1, b2, b3, b4, b5, b6, b7] = x := HR.out
    have y2 : By w2 B g o n c (uB true 8 x ++ bs) := HY.out.below ((Below.drew (Below.refl B W)).trans (q2.mono (by have := HX.out.lt; show B ≤ W.heap.size; omega)))
    have g2 : W.grownBy w2 (some p) := World.grownBy.trans (only_drew (World.grownBy.refl W _)) (only_of_below q2 _)
    have d0 := HX2.out.cell 0
    have z2 := HX2.out.frozen 0
    simp at d0
    have HY2 := Hd y2
    have HG2 := Hd g2
    have HE2 := Hd e2
    clear y2 g2 q2 e2 c0 c1 z0 k0 k1 k2 k3 k4 k5 k6 k7
    have hfb := fun z : Int => run_frombits64 z
    go_wp2
    all_goals go_returns
    · subst h
      exact ⟨by rw [HE2.out]; rfl, Wp.cut_eq hp HX2.out HY2.out HUL.out, HG2.out.trans (grown_set _)⟩
    · exact ⟨by rw [HE2.out]; rfl, Wp.cut_lt hp HX2.out HY2.out HUL.out (by assumption), HG2.out.trans (grown_set _)⟩

end Go.Proofs.YtofdccmmagcamaaGreatDoor
