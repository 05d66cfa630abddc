import Derived.Test.YtofdccmmagcamaaGreatDoorBxI
import Derived.Test.YtofdccmmagcamaaGreatDoorMhC
import Derived.BigRegion
import Derived.Laws.MakeOwn
/- The parser of bytes: numbers' bytes turned about, and bytes as numbers. -/
set_option maxHeartbeats 8000000
set_option linter.unusedSimpArgs false
set_option linter.unusedVariables false
namespace Go.Proofs.YtofdccmmagcamaaGreatDoor
open Go.RowKit Go.Proofs.YtofdccmmagcamaaGreatDoorW.PrintLast

attribute [local go_sem] run_store_float

theorem cell8 {w : World} {g k : Nat} {t : TypeId} {pre post l : List Value} {u : Value} (j : Nat) (h : Blk w g t (pre ++ (l ++ post)).toArray) (hk : pre.length = k) (hu : l[j]? = some u) (hj : j < l.length) : w.cell? ⟨g, k + j, none⟩ = some u := by
  rw [h.cell, List.getElem?_toArray, List.getElem?_append_right (by omega), show k + j - pre.length = j by omega, List.getElem?_append_left hj]
  exact hu
theorem flip_pair {w : World} {g k : Nat} {t : TypeId} {pre post l : List Value} (i j : Nat) (hij : i < 8 ∧ j < 8) (h : Blk w g t (pre ++ (l ++ post)).toArray) (hk : pre.length = k) (hl : l.length = 8) (u v : Value) :
    Blk ((w.setCell ⟨g, k + i, none⟩ u).setCell ⟨g, k + j, none⟩ v) g t (pre ++ ((l.set i u).set j v ++ post)).toArray := by
  have h1 := (h.set_ (k + i) u).set_ (k + j) v
  rw [List.setIfInBounds_toArray, List.setIfInBounds_toArray, set_right hk, set_right hk, List.set_append_left _ _ (by omega), List.set_append_left _ _ (by simp; omega)] at h1
  exact h1
theorem uB_rev (x : Nat) (hx : x < 18446744073709551616) : ∃ b0 b1 b2 b3 b4 b5 b6 b7 : Int, uB true 8 x = [b0, b1, b2, b3, b4, b5, b6, b7] ∧ uB false 8 x = [b7, b6, b5, b4, b3, b2, b1, b0] := by
  obtain ⟨b0, b1, b2, b3, b4, b5, b6, b7, e, -⟩ := uB_eight true x hx
  refine ⟨_, _, _, _, _, _, _, _, e, ?_⟩
  have h := uB_turn 8 x
  rw [e] at h
  have h2 := congrArg List.reverse h
  rw [List.reverse_reverse] at h2
  rw [← h2]
  rfl
theorem numsB_drop (big : Bool) (ns : List Nat) (q : Nat) (h : q < ns.length) : numsB big (ns.drop q) = uB big 8 ns[q] ++ numsB big (ns.drop (q + 1)) := by
  rw [List.drop_eq_getElem_cons h]
  rfl

theorem meas8 {N k : Nat} (h : k + 8 ≤ N) (hN : N ≤ 800000000) : N - (intOf (.int .i64 (wrap64 ((k : Int) + 8)))).toNat < N - (intOf (.int .i64 (k : Int))).toNat := by
  have hw : wrap64 ((k : Int) + 8) = ((k + 8 : Nat) : Int) := by unfold wrap64; omega
  rw [hw]
  show N - ((k + 8 : Nat) : Int).toNat < N - (k : Int).toNat
  rw [Int.toNat_natCast, Int.toNat_natCast]
  omega

set_option maxRecDepth 100000 in
theorem flip_any {W : World} {g n c N : Nat} {ns : List Nat} (hn : ns.length = n) (hN : N = 8 * n) (hc : N ≤ c) (hm : n ≤ 100000000) (hb : ∀ b ∈ ns, b < 18446744073709551616) (h : Blk W g 5 (bytesV (numsB true ns)).toArray) :
    Calls Tryz.prog 213 #[.slice (some ⟨g, 0, none⟩) N c] W fun e w' => e = .returned (.tuple #[]) ∧ Blk w' g 5 (bytesV (numsB false ns)).toArray ∧ W.grownBy w' (some g) := by
  have HN := Hd hn
  have HNN := Hd hN
  have HBB := Hd hb
  have H := Hd h
  clear hn hN hb h
  go_enter Tryz.func213, Tryz.ntmps213
  go_wp2
  go_loopw [2] (fun i wr => ∃ q k : Nat, q ≤ n ∧ k = 8 * q ∧ i = .int .i64 k ∧ Blk wr g 5 (bytesV (numsB false (ns.take q) ++ numsB true (ns.drop q))).toArray ∧ W.grownBy wr (some g)) (fun i _ => N - (intOf i).toNat)
  case atStart => exact ⟨0, 0, Nat.zero_le _, rfl, rfl, by simpa [numsB] using H.out, World.grownBy.refl _ _⟩
  case round =>
    obtain ⟨q, k, hq, hk, rfl, x0, gr⟩ := hrel
    have hNv := HNN.out
    by_cases hlt : q < n
    · have hql : q < ns.length := by rw [HN.out]; exact hlt
      obtain ⟨b0, b1, b2, b3, b4, b5, b6, b7, e1, e2⟩ := uB_rev ns[q] (HBB.out _ (List.getElem_mem _))
      have hkN : k + 8 ≤ N := by omega
      have hpl : (bytesV (numsB false (ns.take q))).length = k := by rw [bytesV_length, numsB_length, List.length_take]; omega
      have HT : Hid (numsB false (ns.take (q + 1)) = numsB false (ns.take q) ++ uB false 8 ns[q]) := Hd (by rw [take_snoc' ns q hql, numsB_append]; simp only [numsB, List.map_cons, List.map_nil, List.flatten_cons, List.flatten_nil, List.append_nil])
      rw [numsB_drop true ns q hql, e1, bytesV_append, bytesV_append] at x0
      have E2 := Hd e2
      have HK := Hd hk
      have HPL := Hd hpl
      have hlt2 : decide ((k : Int) < N) = true := decide_eq_true (by omega)
      have GRW := Hd gr
      generalize hpre : bytesV (numsB false (ns.take q)) = pre at *
      generalize hpost : bytesV (numsB true (ns.drop (q + 1))) = post at *
      have HPRE := Hd hpre
      have HPOST := Hd hpost
      have X0 : Hid (Blk wr g 5 (pre ++ ([Value.int .u8 b0, Value.int .u8 b1, Value.int .u8 b2, Value.int .u8 b3, Value.int .u8 b4, Value.int .u8 b5, Value.int .u8 b6, Value.int .u8 b7] ++ post)).toArray) := Hd x0
      have GR0 : Hid (wr.grownBy wr (some g)) := Hd (World.grownBy.refl _ _)
      clear hpre hpost x0 gr e1 e2 hk hpl
      have HKN : Hid (k + 8 ≤ N ∧ N ≤ 800000000) := Hd ⟨hkN, by omega⟩
      clear hNv hq
      go_wp2
      have c0a : wr.cell? ⟨g, k + 7, none⟩ = some (.int .u8 b7) := cell8 7 X0.out HPL.out rfl (by simp)
      have c0b : wr.cell? ⟨g, k, none⟩ = some (.int .u8 b0) := cell8 0 X0.out HPL.out rfl (by simp)
      obtain ⟨hk8, hN8⟩ := HKN.out
      have hw0 : IntKind.i64.wrap (k : Int) = (k : Int) := by rw [IntKind.wrap_i64]; omega
      have hp0 : 0 ≤ (k : Int) := by omega
      have hq0 : (k : Int) < N := by omega
      have hw7 : IntKind.i64.wrap ((k : Int) + 7) = ((k : Int) + 7) := by rw [IntKind.wrap_i64]; omega
      have hp7 : 0 ≤ ((k : Int) + 7) := by omega
      have hq7 : ((k : Int) + 7) < N := by omega
      have ht7 : ((k : Int) + 7).toNat = k + 7 := by omega
      have ea : (World.drew wr).cell? ⟨g, k + 7, none⟩ = some (.int .u8 b7) := c0a
      have zea : (World.drew wr).frozen? ⟨g, k + 7, none⟩ = false := X0.out.frozen _
      have yea : wr.frozen? ⟨g, k + 7, none⟩ = false := X0.out.frozen _
      have eb : (World.drew wr).cell? ⟨g, k, none⟩ = some (.int .u8 b0) := c0b
      have zeb : (World.drew wr).frozen? ⟨g, k, none⟩ = false := X0.out.frozen _
      have yeb : wr.frozen? ⟨g, k, none⟩ = false := X0.out.frozen _
      go_region
      clear ea eb zea zeb yea yeb
      clear hk8 hN8 hw0 hp0 hq0 hw7 hp7 hq7 ht7
      have x1 : Blk (World.drew ((wr.setCell ⟨g, k, none⟩ (.int .u8 b7)).setCell ⟨g, k + 7, none⟩ (.int .u8 b0))) g 5 (pre ++ ([Value.int .u8 b7, Value.int .u8 b1, Value.int .u8 b2, Value.int .u8 b3, Value.int .u8 b4, Value.int .u8 b5, Value.int .u8 b6, Value.int .u8 b0] ++ post)).toArray := (flip_pair 0 7 (by decide) X0.out HPL.out rfl (.int .u8 b7) (.int .u8 b0)).drew
      have g1 : wr.grownBy (World.drew ((wr.setCell ⟨g, k, none⟩ (.int .u8 b7)).setCell ⟨g, k + 7, none⟩ (.int .u8 b0))) (some g) := only_drew ((GR0.out.trans (grown_set _)).trans (grown_set _))
      generalize World.drew ((wr.setCell ⟨g, k, none⟩ (.int .u8 b7)).setCell ⟨g, k + 7, none⟩ (.int .u8 b0)) = v1 at *
      have X1 := Hd x1
      have GR1 := Hd g1
      clear x1 g1 X0 GR0 c0a c0b
      go_wp2
      have c1a : v1.cell? ⟨g, k + 6, none⟩ = some (.int .u8 b6) := cell8 6 X1.out HPL.out rfl (by simp)
      have c1b : v1.cell? ⟨g, k + 1, none⟩ = some (.int .u8 b1) := cell8 1 X1.out HPL.out rfl (by simp)
      obtain ⟨hk8, hN8⟩ := HKN.out
      have hw1 : IntKind.i64.wrap ((k : Int) + 1) = ((k : Int) + 1) := by rw [IntKind.wrap_i64]; omega
      have hp1 : 0 ≤ ((k : Int) + 1) := by omega
      have hq1 : ((k : Int) + 1) < N := by omega
      have ht1 : ((k : Int) + 1).toNat = k + 1 := by omega
      have hw6 : IntKind.i64.wrap ((k : Int) + 6) = ((k : Int) + 6) := by rw [IntKind.wrap_i64]; omega
      have hp6 : 0 ≤ ((k : Int) + 6) := by omega
      have hq6 : ((k : Int) + 6) < N := by omega
      have ht6 : ((k : Int) + 6).toNat = k + 6 := by omega
      have ea : (World.drew v1).cell? ⟨g, k + 6, none⟩ = some (.int .u8 b6) := c1a
      have zea : (World.drew v1).frozen? ⟨g, k + 6, none⟩ = false := X1.out.frozen _
      have yea : v1.frozen? ⟨g, k + 6, none⟩ = false := X1.out.frozen _
      have eb : (World.drew v1).cell? ⟨g, k + 1, none⟩ = some (.int .u8 b1) := c1b
      have zeb : (World.drew v1).frozen? ⟨g, k + 1, none⟩ = false := X1.out.frozen _
      have yeb : v1.frozen? ⟨g, k + 1, none⟩ = false := X1.out.frozen _
      go_region
      clear ea eb zea zeb yea yeb
      clear hk8 hN8 hw1 hp1 hq1 ht1 hw6 hp6 hq6 ht6
      have x2 : Blk (World.drew ((v1.setCell ⟨g, k + 1, none⟩ (.int .u8 b6)).setCell ⟨g, k + 6, none⟩ (.int .u8 b1))) g 5 (pre ++ ([Value.int .u8 b7, Value.int .u8 b6, Value.int .u8 b2, Value.int .u8 b3, Value.int .u8 b4, Value.int .u8 b5, Value.int .u8 b1, Value.int .u8 b0] ++ post)).toArray := (flip_pair 1 6 (by decide) X1.out HPL.out rfl (.int .u8 b6) (.int .u8 b1)).drew
      have g2 : wr.grownBy (World.drew ((v1.setCell ⟨g, k + 1, none⟩ (.int .u8 b6)).setCell ⟨g, k + 6, none⟩ (.int .u8 b1))) (some g) := only_drew ((GR1.out.trans (grown_set _)).trans (grown_set _))
      generalize World.drew ((v1.setCell ⟨g, k + 1, none⟩ (.int .u8 b6)).setCell ⟨g, k + 6, none⟩ (.int .u8 b1)) = v2 at *
      have X2 := Hd x2
      have GR2 := Hd g2
      clear x2 g2 X1 GR1 c1a c1b
      go_wp2
      have c2a : v2.cell? ⟨g, k + 5, none⟩ = some (.int .u8 b5) := cell8 5 X2.out HPL.out rfl (by simp)
      have c2b : v2.cell? ⟨g, k + 2, none⟩ = some (.int .u8 b2) := cell8 2 X2.out HPL.out rfl (by simp)
      obtain ⟨hk8, hN8⟩ := HKN.out
      have hw2 : IntKind.i64.wrap ((k : Int) + 2) = ((k : Int) + 2) := by rw [IntKind.wrap_i64]; omega
      have hp2 : 0 ≤ ((k : Int) + 2) := by omega
      have hq2 : ((k : Int) + 2) < N := by omega
      have ht2 : ((k : Int) + 2).toNat = k + 2 := by omega
      have hw5 : IntKind.i64.wrap ((k : Int) + 5) = ((k : Int) + 5) := by rw [IntKind.wrap_i64]; omega
      have hp5 : 0 ≤ ((k : Int) + 5) := by omega
      have hq5 : ((k : Int) + 5) < N := by omega
      have ht5 : ((k : Int) + 5).toNat = k + 5 := by omega
      have ea : (World.drew v2).cell? ⟨g, k + 5, none⟩ = some (.int .u8 b5) := c2a
      have zea : (World.drew v2).frozen? ⟨g, k + 5, none⟩ = false := X2.out.frozen _
      have yea : v2.frozen? ⟨g, k + 5, none⟩ = false := X2.out.frozen _
      have eb : (World.drew v2).cell? ⟨g, k + 2, none⟩ = some (.int .u8 b2) := c2b
      have zeb : (World.drew v2).frozen? ⟨g, k + 2, none⟩ = false := X2.out.frozen _
      have yeb : v2.frozen? ⟨g, k + 2, none⟩ = false := X2.out.frozen _
      go_region
      clear ea eb zea zeb yea yeb
      clear hk8 hN8 hw2 hp2 hq2 ht2 hw5 hp5 hq5 ht5
      have x3 : Blk (World.drew ((v2.setCell ⟨g, k + 2, none⟩ (.int .u8 b5)).setCell ⟨g, k + 5, none⟩ (.int .u8 b2))) g 5 (pre ++ ([Value.int .u8 b7, Value.int .u8 b6, Value.int .u8 b5, Value.int .u8 b3, Value.int .u8 b4, Value.int .u8 b2, Value.int .u8 b1, Value.int .u8 b0] ++ post)).toArray := (flip_pair 2 5 (by decide) X2.out HPL.out rfl (.int .u8 b5) (.int .u8 b2)).drew
      have g3 : wr.grownBy (World.drew ((v2.setCell ⟨g, k + 2, none⟩ (.int .u8 b5)).setCell ⟨g, k + 5, none⟩ (.int .u8 b2))) (some g) := only_drew ((GR2.out.trans (grown_set _)).trans (grown_set _))
      generalize World.drew ((v2.setCell ⟨g, k + 2, none⟩ (.int .u8 b5)).setCell ⟨g, k + 5, none⟩ (.int .u8 b2)) = v3 at *
      have X3 := Hd x3
      have GR3 := Hd g3
      clear x3 g3 X2 GR2 c2a c2b
      go_wp2
      have c3a : v3.cell? ⟨g, k + 4, none⟩ = some (.int .u8 b4) := cell8 4 X3.out HPL.out rfl (by simp)
      have c3b : v3.cell? ⟨g, k + 3, none⟩ = some (.int .u8 b3) := cell8 3 X3.out HPL.out rfl (by simp)
      obtain ⟨hk8, hN8⟩ := HKN.out
      have hw3 : IntKind.i64.wrap ((k : Int) + 3) = ((k : Int) + 3) := by rw [IntKind.wrap_i64]; omega
      have hp3 : 0 ≤ ((k : Int) + 3) := by omega
      have hq3 : ((k : Int) + 3) < N := by omega
      have ht3 : ((k : Int) + 3).toNat = k + 3 := by omega
      have hw4 : IntKind.i64.wrap ((k : Int) + 4) = ((k : Int) + 4) := by rw [IntKind.wrap_i64]; omega
      have hp4 : 0 ≤ ((k : Int) + 4) := by omega
      have hq4 : ((k : Int) + 4) < N := by omega
      have ht4 : ((k : Int) + 4).toNat = k + 4 := by omega
      have ea : (World.drew v3).cell? ⟨g, k + 4, none⟩ = some (.int .u8 b4) := c3a
      have zea : (World.drew v3).frozen? ⟨g, k + 4, none⟩ = false := X3.out.frozen _
      have yea : v3.frozen? ⟨g, k + 4, none⟩ = false := X3.out.frozen _
      have eb : (World.drew v3).cell? ⟨g, k + 3, none⟩ = some (.int .u8 b3) := c3b
      have zeb : (World.drew v3).frozen? ⟨g, k + 3, none⟩ = false := X3.out.frozen _
      have yeb : v3.frozen? ⟨g, k + 3, none⟩ = false := X3.out.frozen _
      go_region
      clear ea eb zea zeb yea yeb
      clear hk8 hN8 hw3 hp3 hq3 ht3 hw4 hp4 hq4 ht4
      have x4 : Blk (World.drew ((v3.setCell ⟨g, k + 3, none⟩ (.int .u8 b4)).setCell ⟨g, k + 4, none⟩ (.int .u8 b3))) g 5 (pre ++ ([Value.int .u8 b7, Value.int .u8 b6, Value.int .u8 b5, Value.int .u8 b4, Value.int .u8 b3, Value.int .u8 b2, Value.int .u8 b1, Value.int .u8 b0] ++ post)).toArray := (flip_pair 3 4 (by decide) X3.out HPL.out rfl (.int .u8 b4) (.int .u8 b3)).drew
      have g4 : wr.grownBy (World.drew ((v3.setCell ⟨g, k + 3, none⟩ (.int .u8 b4)).setCell ⟨g, k + 4, none⟩ (.int .u8 b3))) (some g) := only_drew ((GR3.out.trans (grown_set _)).trans (grown_set _))
      generalize World.drew ((v3.setCell ⟨g, k + 3, none⟩ (.int .u8 b4)).setCell ⟨g, k + 4, none⟩ (.int .u8 b3)) = v4 at *
      have X4 := Hd x4
      have GR4 := Hd g4
      clear x4 g4 X3 GR3 c3a c3b
      go_wp2
      go_roundw
      case rel =>
        have hNv := HNN.out
        have hw : wrap64 ((k : Int) + 8) = ((k + 8 : Nat) : Int) := by unfold wrap64; omega
        refine ⟨q + 1, k + 8, by omega, by have := HK.out; omega, by rw [hw], ?_, GRW.out.trans GR4.out⟩
        rw [HT.out, E2.out, bytesV_append, bytesV_append, HPRE.out, HPOST.out, List.append_assoc]
        exact X4.out
      case measure =>
        have hNv := HNN.out
        show N - (intOf (.int .i64 (wrap64 ((k : Int) + 8)))).toNat < N - (intOf (.int .i64 (k : Int))).toNat
        exact meas8 (by omega) (by omega)
    · obtain rfl : n = q := by omega
      have hge : decide ((k : Int) < N) = false := decide_eq_false (by omega)
      have hge2 : ¬ k < N := by omega
      have e1 : ns.take n = ns := List.take_of_length_le (by rw [HN.out]; exact Nat.le_refl _)
      have e2 : ns.drop n = [] := List.drop_eq_nil_of_le (by rw [HN.out]; exact Nat.le_refl _)
      rw [e1, e2] at x0
      have X0 := Hd x0
      have GRW := Hd gr
      clear x0 gr e1 e2 hNv hk
      go_wp2
      go_end0
      exact ⟨rfl, by simpa [numsB] using X0.out, GRW.out⟩


theorem By.at8 {w : World} {B g o n c : Nat} {a bs r : List Int} {k : Nat} (h : By w B g o n c (a ++ (bs ++ r))) (hk : a.length = k) {j : Nat} {b : Int} (hj : bs[j]? = some b) : w.cell? ⟨g, o + k + j, none⟩ = some (.int .u8 b) := by
  obtain ⟨h1, h2, h3, h4⟩ := h
  have hl := (List.getElem?_eq_some_iff.1 hj).1
  have := h4 (k + j) b (by rw [List.getElem?_append_right (by omega), show k + j - a.length = j by omega, List.getElem?_append_left hl]; exact hj)
  rwa [← Nat.add_assoc] at this
theorem blk_put {w : World} {g k n : Nat} {t : TypeId} {xs : List Nat} {x : Nat} (h : Blk w g t (flV (xs.take k ++ List.replicate (n - k) 0)).toArray) (hk : k < n) (hx : xs[k]? = some x) (hn : xs.length = n) : Blk (w.setCell ⟨g, k, none⟩ (.float .f64 x)) g t (flV (xs.take (k + 1) ++ List.replicate (n - (k + 1)) 0)).toArray := by
  have h1 := h.set_ k (.float .f64 x)
  rw [List.setIfInBounds_toArray] at h1
  have e : (flV (xs.take k ++ List.replicate (n - k) 0)).set k (.float .f64 x) = flV (xs.take (k + 1) ++ List.replicate (n - (k + 1)) 0) := by
    have hl : (xs.take k).length = k := by rw [List.length_take]; omega
    rw [List.take_add_one, hx, Option.toList_some, show n - k = (n - (k + 1)) + 1 by omega, List.replicate_succ]
    unfold flV
    rw [← List.map_set, List.set_append_right _ _ (by omega), hl, Nat.sub_self, List.set_cons_zero, List.append_assoc]
    rfl
  rw [e] at h1
  exact h1

theorem blk_zero {w : World} {g k n : Nat} {t : TypeId} {xs : List Nat} (h : Blk w g t (flV (xs.take k ++ List.replicate (n - k) 0)).toArray) (hk : k < n) (hn : xs.length = n) : w.cell? ⟨g, k, none⟩ = some (.float .f64 0) := by
  have hl : (xs.take k).length = k := by rw [List.length_take]; omega
  rw [h.cell, List.getElem?_toArray]
  unfold flV
  rw [List.getElem?_map, List.getElem?_append_right (by omega), hl, Nat.sub_self, List.getElem?_replicate, if_pos (by omega)]
  rfl

set_option maxRecDepth 100000 in
theorem floats_any {W : World} {B g o c n N : Nat} {ns : List Nat} {r : List Int} (hn : ns.length = n) (hN : N = 8 * n) (hm : n ≤ 100000000) (hb : ∀ b ∈ ns, b < 18446744073709551616) (hB : B ≤ W.heap.size) (h : By W B g o N c (numsB false ns)) :
    Calls Tryz.prog 214 #[.slice (some ⟨g, o, none⟩) N c] W fun e w' => ∃ (A : Option Addr) (c' : Nat), e = .returned (.slice A n c') ∧ (0 < n → ∃ g1, A = some ⟨g1, 0, none⟩ ∧ Blk w' g1 73 (flV ns).toArray) ∧ Below W.heap.size W w' := by
  obtain ⟨i0, hi0, hz0, hz1, hz2⟩ := info_parts info_f64
  by_cases hn0 : n = 0
  · have hd : ((N : Int) == 0) = true := by rw [hN, hn0]; rfl
    go_enter Tryz.func214, Tryz.ntmps214
    go_wp2
    go_ret
    exact ⟨none, 0, by rw [hn0]; rfl, fun h0 => absurd h0 (by omega), Below.refl _ _⟩
  have hd : ((N : Int) == 0) = false := by rw [beq_eq_false_iff_ne]; omega
  have hq : (N : Int) / 8 = (n : Int) := by omega
  have hmk : ∀ w : World, (Instr.makeSlice 22 (.int .i64 (n : Int)) (.int .i64 (n : Int))).run Tryz.prog w = .ok (.slice (some ⟨w.heap.size, 0, none⟩) n n) (w.alloc (.cells (madeCells #[.float .f64 0] n) 73)) := fun w => by
    have h := run_make_rowN (P := Tryz.prog) 22 73 i0 (.float .f64 0) Tryz.underlying22 hi0 hz0 .i64 .i64 n n (Nat.le_refl _) (by rw [hz2]; omega) (by omega) w
    rw [hz1, Nat.mul_one] at h
    exact h
  have hx0 : Blk (W.alloc (.cells (madeCells #[.float .f64 0] n) 73)) W.heap.size 73 (flV (ns.take 0 ++ List.replicate (n - 0) 0)).toArray := by
    have h := Blk.new W 73 (madeCells #[.float .f64 0] n)
    refine Eq.trans h ?_
    rw [madeCells_one]
    simp [flV]
  have hcN : N ≤ c := h.2.1
  have HN := Hd hn
  have HBB := Hd hb
  have HY := Hd (h.below ((Below.refl B W).alloc hB (.cells (madeCells #[.float .f64 0] n) 73)))
  have HX0 := Hd hx0
  have HNN := Hd hN
  clear hn hb h hx0 hN
  go_enter Tryz.func214, Tryz.ntmps214
  go_wp2
  go_loopw [14] (fun i wr => ∃ k : Nat, k ≤ n ∧ i = .int .i64 k ∧ Blk wr W.heap.size 73 (flV (ns.take k ++ List.replicate (n - k) 0)).toArray ∧ Below W.heap.size W wr ∧ By wr B g o N c (numsB false ns)) (fun i _ => n - (intOf i).toNat)
  case atStart => exact ⟨0, Nat.zero_le _, rfl, HX0.out, (Below.refl _ _).alloc (Nat.le_refl _) _, HY.out⟩
  case round =>
    obtain ⟨k, hk, rfl, x0, bl, by0⟩ := hrel
    by_cases hlt : k < n
    · have hkl : k < ns.length := by rw [HN.out]; exact hlt
      have hNv := HNN.out
      have hsp : numsB false ns = numsB false (ns.take k) ++ (uB false 8 ns[k] ++ numsB false (ns.drop (k + 1))) := by
        rw [← numsB_drop false ns k hkl, ← numsB_append, List.take_append_drop]
      have hpl : (numsB false (ns.take k)).length = 8 * k := by rw [numsB_length, List.length_take]; omega
      have hxk : ns[k]? = some ns[k] := List.getElem?_eq_getElem hkl
      obtain ⟨b0, b1, b2, b3, b4, b5, b6, b7, e1, e2⟩ := uB_eight false ns[k] (HBB.out _ (List.getElem_mem _))
      have by1 := by0
      rw [hsp, e1] at by1
      have HPUT : Hid (∀ w, Blk w W.heap.size 73 (flV (ns.take k ++ List.replicate (n - k) 0)).toArray → Blk (w.setCell ⟨W.heap.size, k, none⟩ (.float .f64 ns[k])) W.heap.size 73 (flV (ns.take (k + 1) ++ List.replicate (n - (k + 1)) 0)).toArray) := Hd (fun w h => blk_put h hlt hxk HN.out)
      have HC := Hd (Tryz.binary_LE_Uint64 g (o + 8 * k) (N - 8 * k) (c - 8 * k) b0 b1 b2 b3 b4 b5 b6 b7 wr.drew (by omega) (by1.at8 hpl (j := 0) rfl) (by1.at8 hpl (j := 1) rfl) (by1.at8 hpl (j := 2) rfl) (by1.at8 hpl (j := 3) rfl) (by1.at8 hpl (j := 4) rfl) (by1.at8 hpl (j := 5) rfl) (by1.at8 hpl (j := 6) rfl) (by1.at8 hpl (j := 7) rfl))
      have HE : Hid (Lib.leNat [b0, b1, b2, b3, b4, b5, b6, b7] = ns[k]) := Hd e2
      have hw8 : IntKind.i64.wrap (8 * (k : Int)) = 8 * (k : Int) := by rw [IntKind.wrap_i64]; omega
      have hs1 : 8 * (k : Int) ≤ N := by omega
      have hs0 : 0 ≤ 8 * (k : Int) := by omega
      have hs2 : (8 * (k : Int)).toNat = 8 * k := by omega
      have hs3 : ¬ c = 8 * k := by omega
      have hs4 : 8 * k ≤ N := by omega
      have HX := Hd x0
      have HBL := Hd bl
      have HBY := Hd by0
      have hws := x0.lt
      have hfb := fun z : Int => run_frombits64 z
      generalize ns[k] = x at *
      clear x0 bl by0 by1 hsp hpl hxk e1 e2 hNv
      go_wp2
      refine start_ (n := 11) (S := fun w' => True) (ds := [10]) #[false, false, false, false, false, false, false, false, false, false, false] (by kernel_rfl) rfl rfl trivial (fun hHeld => ?_)
      refine pure_ (i := 0) (N := some 17) (v := ?_) (a' := ?_) #[true, false, false, false, false, false, false, false, false, false, false] rfl rfl (by kernel_rfl) (fun _ _ _ h => h) (Or.inl ⟨by rfl, ?_⟩) ?_ ?_
      rotate_left; (· intro w'; go_simp; with_reducible rfl); rotate_left; (· simp only [Act.put, sA, sB, sC]; rfl)
      refine pure_ (i := 1) (N := some 18) (v := ?_) (a' := ?_) #[true, true, false, false, false, false, false, false, false, false, false] rfl rfl (by kernel_rfl) (fun _ _ _ h => h) (Or.inl ⟨by rfl, ?_⟩) ?_ ?_
      rotate_left; (· intro w'; go_simp; with_reducible rfl); rotate_left; (· simp only [Act.put, sA, sB, sC]; rfl)
      refine pure_ (i := 3) (N := some 20) (v := ?_) (a' := ?_) #[true, true, false, true, false, false, false, false, false, false, false] rfl rfl (by kernel_rfl) (fun _ _ _ h => h) (Or.inl ⟨by rfl, ?_⟩) ?_ ?_
      rotate_left; (· intro w'; go_simp; with_reducible rfl); rotate_left; (· simp only [Act.put, sA, sB, sC]; rfl)
      refine pure_ (i := 4) (N := some 21) (v := ?_) (a' := ?_) #[true, true, false, true, true, false, false, false, false, false, false] rfl rfl (by kernel_rfl) (fun _ _ _ h => h) (Or.inl ⟨by rfl, ?_⟩) ?_ ?_
      rotate_left; (· intro w'; go_simp; with_reducible rfl); rotate_left; (· simp only [Act.put, sA, sB, sC]; rfl)
      refine pure_ (i := 5) (N := some 22) (v := ?_) (a' := ?_) #[true, true, false, true, true, true, false, false, false, false, false] rfl rfl (by kernel_rfl) (fun _ _ _ h => h) (Or.inl ⟨by rfl, ?_⟩) ?_ ?_
      rotate_left; (· intro w'; go_simp; with_reducible rfl); rotate_left; (· simp only [Act.put, sA, sB, sC]; rfl)
      refine pure_ (i := 6) (N := some 23) (v := ?_) (a' := ?_) #[true, true, false, true, true, true, true, false, false, false, false] rfl rfl (by kernel_rfl) (fun _ _ _ h => h) (Or.inl ⟨by rfl, ?_⟩) ?_ ?_
      rotate_left; (· intro w'; go_simp; with_reducible rfl); rotate_left; (· simp only [Act.put, sA, sB, sC]; rfl)
      refine take_ (i := 2) (N := some 19) (v := ?_) (a' := ?_) #[true, true, true, true, true, true, true, false, false, false, false] rfl rfl (by kernel_rfl) (fun _ _ _ h => h) (Or.inl ⟨by rfl, ?_⟩) hHeld ?_ ?_
      rotate_left
      · intro w' _
        go_simp
        with_reducible rfl
      rotate_left
      · simp only [Act.put, sA, sB, sC]
        rfl
      refine one_ (i := 7) (N := some 24) #[true, true, true, true, true, true, true, true, false, false, false] rfl rfl (by kernel_rfl) (by decide) (fun K hK => ?_)
      refine goes_ Tryz.func249 (by kernel_rfl) rfl #[.agg #[], .slice (some ⟨g, o + 8 * k, none⟩) (N - 8 * k) (c - 8 * k)] (by rfl) rfl rfl (by simp only [List.map_toArray, List.map_cons, List.map_nil]; rfl) ?_
      with_reducible refine (HC.out).mono ?_
      rintro e w2 ⟨rfl, q2⟩
      refine ⟨_, rfl, ?_⟩
      refine hK.out _ _ trivial (fun hHeld => ?_)
      clear hK K
      refine norm_ (a' := ?_) ?_ ?_
      rotate_left
      · show Act.put _ (some 24) _ = _
        simp only [Act.put, sA, sB, sC]
        rfl
      refine one_ (i := 8) (N := some 25) #[true, true, true, true, true, true, true, true, true, false, false] rfl rfl (by kernel_rfl) (by decide) (fun K hK => ?_)
      refine value_ (w1 := ?_) (v := ?_) (by rfl) rfl ?_ ?_
      rotate_left 2
      · go_simp
        constructor
        · rfl
        · rfl
      refine hK.out _ _ trivial (fun hHeld => ?_)
      clear hK K
      refine norm_ (a' := ?_) ?_ ?_
      rotate_left
      · show Act.put _ (some 25) _ = _
        simp only [Act.put, sA, sB, sC]
        rfl
      refine pure_ (i := 9) (N := some 26) (v := ?_) (a' := ?_) #[true, true, true, true, true, true, true, true, true, true, false] rfl rfl (by kernel_rfl) (fun _ _ _ h => h) (Or.inl ⟨by rfl, ?_⟩) ?_ ?_
      rotate_left; (· intro w'; go_simp; with_reducible rfl); rotate_left; (· simp only [Act.put, sA, sB, sC]; rfl)
      refine last_ (i := 10) (N := none) #[true, true, true, true, true, true, true, true, true, true, true] rfl rfl (by kernel_rfl) (by decide) (fun K hK => ?_)
      have z1 : w2.frozen? ⟨W.heap.size, k, none⟩ = false := (HX.out.drew.below q2 HX.out.lt).frozen _
      have z2 : w2.cell? ⟨W.heap.size, k, none⟩ = some (.float .f64 0) := blk_zero (HX.out.drew.below q2 HX.out.lt) hlt HN.out
      refine skip_ (w1 := ?_) (by rfl) rfl ?_ ?_
      rotate_left
      · go_simp
        rfl
      refine hK.out _ _ ?_
      clear hK K
      refine done_ (by kernel_rfl) ?_
      have HW : Hid (Blk w2 W.heap.size 73 (flV (ns.take k ++ List.replicate (n - k) 0)).toArray) := Hd (HX.out.drew.below q2 HX.out.lt)
      have HB2 : Hid (Below wr.heap.size wr w2) := Hd ((Below.drew (Below.refl _ wr)).trans q2)
      clear q2 hfb hw8 hs1 hs0 hs2 hs3 hs4
      go_wp2
      go_roundw
      case rel =>
        have hx := HPUT.out _ HW.out
        rw [← HE.out] at hx
        refine ⟨k + 1, by omega, by go_num, hx, below_setCell' (HBL.out.trans (HB2.out.mono HBL.out.size)) (Nat.le_refl _) _, ?_⟩
        exact (HBY.out.below (HB2.out.mono (by omega))).below (below_setCell' (Below.refl _ _) hB _)
      case measure => simp [intOf]; omega
    · obtain rfl : n = k := by omega
      rw [Nat.sub_self, List.replicate_zero, List.append_nil, List.take_of_length_le (by rw [HN.out]; exact Nat.le_refl _)] at x0
      have X0 := Hd x0
      have BL := Hd bl
      clear x0 bl by0
      go_wp2
      go_ret
      exact ⟨some ⟨W.heap.size, 0, none⟩, n, rfl, fun _ => ⟨W.heap.size, rfl, X0.out⟩, BL.out⟩

end Go.Proofs.YtofdccmmagcamaaGreatDoor
