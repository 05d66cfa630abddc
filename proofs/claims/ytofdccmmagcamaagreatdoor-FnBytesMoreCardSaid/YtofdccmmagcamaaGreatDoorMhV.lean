import Derived.Test.YtofdccmmagcamaaGreatDoorWLast
import Derived.Test.YtofdccmmagcamaaGreatDoorBxAb
import Derived.Test.YtofdccmmagcamaaGreatDoorMhM
import Derived.Deep.Cut
import Derived.Test.YtofdccmmagcamaaGreatDoorBxAc
import Derived.Test.YtofdccmmagcamaaGreatDoorBxAd
/- The thin package's plain data of rows of parts. -/
set_option maxHeartbeats 8000000
set_option linter.unusedSimpArgs false
set_option linter.unusedVariables false
namespace Go.Proofs.YtofdccmmagcamaaGreatDoor
open Go.RowKit Go.Proofs.YtofdccmmagcamaaGreatDoorW.PrintLast

attribute [local go_sem] run_store_float

set_option maxRecDepth 100000 in
theorem plainCollection_G {ok : Nat → Prop} {A : Option Addr} {n c : Nat} {q : Int} {t : Gm} (W : World) (h : GcG W ok [.slice A n c, .int .u8 q] t) (hs : t.np ≤ 100000) (ih : ∀ s ∈ t.kids, ∀ (w : World) (ok : Nat → Prop) (x : List Value), GeoG w ok x s → s.np ≤ 100000 → Calls Tryz.prog 44 #[.agg x.toArray] w fun e w' => ∃ cs, e = .returned (.agg cs.toArray) ∧ GmOn w' (fun b => w.heap.size ≤ b) cs s ∧ Below w.heap.size w w') :
    Calls Tryz.prog 109 #[.agg #[.slice A n c, .int .u8 q]] W fun e w' => ∃ cs, e = .returned (.agg cs.toArray) ∧ GmOn w' (fun b => W.heap.size ≤ b) cs t ∧ Below W.heap.size W w' := by
  obtain ⟨A', n', c', q', ks, rfl, e, q0, q1, hl, hn, hkr⟩ := h
  simp only [List.cons.injEq, Value.slice.injEq, Value.int.injEq, and_true, true_and] at e
  obtain ⟨⟨rfl, rfl, rfl⟩, rfl⟩ := e
  obtain ⟨i0, hi0, hz0, hz1, hz2⟩ := info_parts info_geom
  have hnp : ∀ s ∈ ks, s.np ≤ 100000 := fun s hsm => by have := np_mem hsm; rw [np_mk, List.length_nil, Nat.zero_div] at hs; omega
  have HP : Hid (∀ (w : World) (ok : Nat → Prop) (x : List Value) (s : Gm), GeoG w ok x s → s ∈ ks → Calls Tryz.prog 44 #[.agg x.toArray] w fun e w' => ∃ cs, e = .returned (.agg cs.toArray) ∧ GmOn w' (fun b => w.heap.size ≤ b) cs s ∧ Below w.heap.size w w') := Hd (fun w ok x s hx hm => by
    exact ih s hm w ok x hx (hnp _ hm))
  have hcv : IntKind.i64.wrap q = q := by have h : q = 0 ∨ q = 1 ∨ q = 2 ∨ q = 3 := by omega
                                          rcases h with rfl | rfl | rfl | rfl <;> rfl
  have HKR := Hd hkr
  have HL := Hd hl
  have b2 : Below W.heap.size W ((W.alloc (.cells #[.slice A n c, .int .u8 q] 125)).alloc (.cells #[.int .i64 0, .int .i64 0, .slice none 0 0, .slice none 0 0] 25)) := ((Below.refl _ _).alloc (Nat.le_refl _) _).alloc (by simp) _
  have p2 := (Blk.new W 125 #[.slice A n c, .int .u8 q]).alloc (.cells #[.int .i64 0, .int .i64 0, .slice none 0 0, .slice none 0 0] 25)
  have r2 := Blk.new (W.alloc (.cells #[.slice A n c, .int .u8 q] 125)) 25 #[.int .i64 0, .int .i64 0, .slice none 0 0, .slice none 0 0]
  rw [World.size_alloc] at r2
  have B2 := Hd b2
  have P2 := Hd p2
  have R2 := Hd r2
  clear b2 p2 r2 hl hkr hnp hs ih
  go_enter Tryz.func109, Tryz.ntmps109
  go_wp2_with fail
  refine (GcCT A n c q _).mono ?_
  rintro e w3 ⟨rfl, b3⟩
  have s3 : W.heap.size + 2 ≤ w3.heap.size := by have := b3.size; simpa using this
  have B3 := Hd ((B2.out.trans (b3.mono B2.out.size)).alloc (by omega) (.cells #[.int .i64 0, .int .i64 q, .slice none 0 0, .slice none 0 0] 25))
  have P3 := Hd ((P2.out.below b3 P2.out.lt).alloc (.cells #[.int .i64 0, .int .i64 q, .slice none 0 0, .slice none 0 0] 25))
  have R3 := Hd ((R2.out.below b3 R2.out.lt).alloc (.cells #[.int .i64 0, .int .i64 q, .slice none 0 0, .slice none 0 0] 25))
  have T3 := Hd (Blk.new w3 25 #[.int .i64 0, .int .i64 q, .slice none 0 0, .slice none 0 0])
  have hsa : w3.heap.size < (w3.alloc (.cells #[.int .i64 0, .int .i64 q, .slice none 0 0, .slice none 0 0] 25)).heap.size := by rw [World.size_alloc]; omega
  clear b3 P2 R2 B2
  go_upto_region 2 with fail
  generalize (w3.alloc (.cells #[.int .i64 0, .int .i64 q, .slice none 0 0, .slice none 0 0] 25)) = w4 at *
  generalize w3.heap.size = T at *
  go_wp2_with fail
  go_loopw [4] (fun i wr => ∃ (k : Nat) (KV : Value), k ≤ n ∧ i = .int .i64 k ∧ Blk wr T 25 #[.int .i64 0, .int .i64 q, .slice none 0 0, KV] ∧ KRow GmOn 25 4 wr (fun b => T + 1 ≤ b) KV (ks.take k) ∧ Blk wr (W.heap.size + 1) 25 #[.int .i64 0, .int .i64 0, .slice none 0 0, .slice none 0 0] ∧ Blk wr W.heap.size 125 #[.slice A n c, .int .u8 q] ∧ Below W.heap.size W wr ∧ T < wr.heap.size) (fun i _ => n - (intOf i).toNat)
  case atStart => exact ⟨0, .slice none 0 0, Nat.zero_le _, rfl, T3.out, KRow.nil _ _, R3.out, P3.out, B3.out, hsa⟩
  case round =>
    obtain ⟨k, KV, hk, rfl, x2, kr, rb, sb, be, hT⟩ := hrel
    have X2a := Hd x2
    have KRa := Hd kr
    have RBa := Hd rb
    have SBa := Hd sb
    have BEa := Hd be
    have s0 := sb.cell 0
    have s1 := sb.cell 1
    simp at s0 s1
    clear x2 kr rb sb be
    go_wp2_with fail
    refine (NumGc A n c q _).mono ?_
    rintro e w5 ⟨rfl, b5⟩
    have h5 := b5.size
    have X2 := Hd (X2a.out.below b5 X2a.out.lt)
    have KR := Hd (KRow.keep GmOn.keeps KRa.out (ok' := fun b => T + 1 ≤ b) (fun b _ hl => b5.block b hl) (fun b hb _ => hb))
    have RB := Hd (RBa.out.below b5 RBa.out.lt)
    have SB := Hd (SBa.out.below b5 SBa.out.lt)
    have BE := Hd (BEa.out.trans (b5.mono BEa.out.size))
    have hln : (ks.take k).length = k := by rw [List.length_take, HL.out]; omega
    have HLN := Hd hln
    have hT5 : T < w5.heap.size := by omega
    clear b5 X2a KRa RBa SBa BEa s0 s1
    by_cases hlt : k < n
    · have hkl : decide ((k : Int) < (n : Int)) = true := decide_eq_true (by omega)
      have hkq : ks[k]? = some (ks[k]'(by rw [HL.out]; exact hlt)) := List.getElem?_eq_getElem _
      have hkm : (ks[k]'(by rw [HL.out]; exact hlt)) ∈ ks := List.getElem_mem _
      generalize (ks[k]'(by rw [HL.out]; exact hlt)) = s at hkq hkm
      go_upto_region 5 with fail
      have hkr5 : KRow GeoG 68 2 (World.drew w5) (fun b => b < W.heap.size) (.slice A n c) ks := KRow.keep GeoG.keeps HKR.out (fun b _ hl => BE.out.block b hl) (fun b _ hl => hl)
      have HG := Hd (GetGc (q := q) (World.drew w5) hkr5 HL.out hlt hkq)
      have HKM := Hd hkm
      have HKQ := Hd hkq
      clear hkr5 hkm hkq
      obtain ⟨css2, r1, r2, r3', r4, r5⟩ := KR.out
      have R1 := Hd r1
      have R2 := Hd r2
      have R3 := Hd r3'
      have R4 := Hd r4
      have R5 := Hd r5
      have XA0 := Hd (Blk.drew X2.out)
      have XB0 := Hd (Blk.drew SB.out)
      have HOK : Hid (∀ b, w5.heap.size ≤ b → T + 1 ≤ b) := Hd fun b hb => by omega
      have KVN : Hid (some T ≠ KV.ownBlock) := Hd fun e => by have := R2.out _ e.symm; omega
      clear r1 r2 r3' r4 r5 h5
      refine start_ (n := 10) (S := fun w' => w'.cell? ⟨T, 3, none⟩ = some KV ∧ w'.cell? ⟨W.heap.size, 0, none⟩ = some (.slice A n c) ∧ w'.cell? ⟨W.heap.size, 1, none⟩ = some (.int .u8 q)) (ds := [7, 9]) #[false, false, false, false, false, false, false, false, false, false] (by kernel_rfl) rfl rfl ⟨(XA0.out.cell 3).trans rfl, (XB0.out.cell 0).trans rfl, (XB0.out.cell 1).trans rfl⟩ (fun hHeld => ?_)
      refine pure_ (i := 0) (N := some 15) (v := ?_) (a' := ?_) #[true, false, false, false, false, false, false, false, false, false] rfl rfl (by kernel_rfl) (fun _ _ _ h => h) (Or.inl ⟨by rfl, ?_⟩) ?_ ?_
      rotate_left; (· intro w'; go_simp; with_reducible rfl); rotate_left; (· simp only [Act.put, sA, sB, sC]; rfl)
      refine pure_ (i := 3) (N := some 18) (v := ?_) (a' := ?_) #[true, false, false, true, false, false, false, false, false, false] rfl rfl (by kernel_rfl) (fun _ _ _ h => h) (Or.inl ⟨by rfl, ?_⟩) ?_ ?_
      rotate_left; (· intro w'; go_simp; with_reducible rfl); rotate_left; (· simp only [Act.put, sA, sB, sC]; rfl)
      refine take_ (i := 1) (N := some 16) (v := ?_) (a' := ?_) #[true, true, false, true, false, false, false, false, false, false] rfl rfl (by kernel_rfl) (fun _ _ _ h => h) (Or.inl ⟨by rfl, ?_⟩) hHeld ?_ ?_
      rotate_left; (· rintro w' ⟨s0, s1, s2⟩; go_simp; with_reducible rfl); rotate_left; (· simp only [Act.put, sA, sB, sC]; rfl)
      refine take_ (i := 2) (N := some 17) (v := ?_) (a' := ?_) #[true, true, true, true, false, false, false, false, false, false] rfl rfl (by kernel_rfl) (fun _ _ _ h => h) (Or.inl ⟨by rfl, ?_⟩) hHeld ?_ ?_
      rotate_left; (· rintro w' ⟨s0, s1, s2⟩; go_simp; with_reducible rfl); rotate_left; (· simp only [Act.put, sA, sB, sC]; rfl)
      refine one_ (i := 4) (N := some 19) #[true, true, true, true, true, false, false, false, false, false] rfl rfl (by kernel_rfl) (by decide) (fun K hK => ?_)
      refine goes_ Tryz.func164 (by kernel_rfl) rfl #[.agg #[.slice A n c, .int .u8 q], .int .i64 k] (by rfl) rfl rfl (by simp only [List.map_toArray, List.map_cons, List.map_nil]; rfl) ?_
      with_reducible refine (HG.out).mono ?_
      rintro e w6 ⟨x, rfl, g6, b6⟩
      refine ⟨_, rfl, ?_⟩
      have XA1 := Hd (XA0.out.below b6 XA0.out.lt)
      have XB1 := Hd (XB0.out.below b6 XB0.out.lt)
      have B6 := Hd b6
      have HC := Hd (HP.out w6 _ x s g6 HKM.out)
      clear g6 b6
      refine hK.out _ _ ⟨(XA1.out.cell 3).trans rfl, (XB1.out.cell 0).trans rfl, (XB1.out.cell 1).trans rfl⟩ (fun hHeld => ?_)
      clear hK K
      refine norm_ (a' := ?_) ?_ ?_
      rotate_left
      · show Act.put _ (some 19) _ = _
        simp only [Act.put, sA, sB, sC]
        rfl
      refine one_ (i := 5) (N := some 20) #[true, true, true, true, true, true, false, false, false, false] rfl rfl (by kernel_rfl) (by decide) (fun K hK => ?_)
      refine goes_ Tryz.func44 (by kernel_rfl) rfl #[.agg x.toArray] (by rfl) rfl rfl (by simp only [List.map_toArray, List.map_cons, List.map_nil]; rfl) ?_
      with_reducible refine (HC.out).mono ?_
      rintro e w7 ⟨y, rfl, g7, b7⟩
      refine ⟨_, rfl, ?_⟩
      obtain ⟨yk, yd, yA, yK, yn, ym, yc, yc', rfl⟩ := g7.shape
      have G7 := Hd g7
      have XA2 := Hd (XA1.out.below b7 XA1.out.lt)
      have XB2 := Hd (XB1.out.below b7 XB1.out.lt)
      have BB : Hid (Below w5.heap.size w5 w7) := Hd ((Below.drew (Below.refl w5.heap.size w5)).trans (Below.trans B6.out (b7.mono B6.out.size)))
      have HSZ : Hid (w5.heap.size ≤ w6.heap.size) := Hd B6.out.size
      clear g7 b7
      refine hK.out _ _ ⟨(XA2.out.cell 3).trans rfl, (XB2.out.cell 0).trans rfl, (XB2.out.cell 1).trans rfl⟩ (fun hHeld => ?_)
      clear hK K
      refine norm_ (a' := ?_) ?_ ?_
      rotate_left
      · show Act.put _ (some 20) _ = _
        simp only [Act.put, sA, sB, sC]
        rfl
      refine one_ (i := 6) (N := some 21) #[true, true, true, true, true, true, true, false, false, false] rfl rfl (by kernel_rfl) (by decide) (fun K hK => ?_)
      refine value_ (w1 := ?_) (v := ?_) (by rfl) rfl ?_ ?_
      rotate_left 2
      · go_simp
        constructor
        · rfl
        · rfl
      have XA9 := Hd (XA2.out.alloc (.cells #[.int .i64 yk, .int .i64 yd, .slice yA yn yc, .slice yK ym yc'] 25))
      have XB9 := Hd (XB2.out.alloc (.cells #[.int .i64 yk, .int .i64 yd, .slice yA yn yc, .slice yK ym yc'] 25))
      refine hK.out _ _ ⟨(XA9.out.cell 3).trans rfl, (XB9.out.cell 0).trans rfl, (XB9.out.cell 1).trans rfl⟩ (fun hHeld => ?_)
      clear hK K
      refine norm_ (a' := ?_) ?_ ?_
      rotate_left
      · show Act.put _ (some 21) _ = _
        simp only [Act.put, sA, sB, sC]
        rfl
      refine last_ (i := 7) (N := some 22) #[true, true, true, true, true, true, true, true, false, false] rfl rfl (by kernel_rfl) (by decide) (fun K hK => ?_)
      refine step_append_any _ rfl _ _ _ rfl 0 25 i0 (.agg #[.int .i64 0, .int .i64 0, .slice none 0 0, .slice none 0 0]) 4 64 Tryz.underlying23 hi0 hz0 hz1 hz2 rfl (by decide) _ (ks.take k).length css2.flatten rfl (own_keep R1.out (fun b _ hb => (Below.heap_alloc w7 _ b (Nat.lt_of_lt_of_le hb BB.out.size)).trans (BB.out.block b hb))) _ _ 1 _ [.int .i64 yk, .int .i64 yd, .slice yA yn yc, .slice yK ym yc'] rfl (by exact reads_new4 rfl) (by simp [Value.oneCell']) (by simp only [maxLen, HLN.out]; omega) (by rw [HLN.out]; omega) (Nat.zero_le _) ?_
      intro v1 W1 ho hg hp
      obtain ⟨kr1, hg1⟩ := KRow.pushed GmOn.keeps R2.out R1.out R3.out R4.out R5.out BB.out (GmOn.keeps _ _ _ _ _ _ G7.out (fun _ _ _ => rfl) (fun b hb _ => Nat.le_trans HSZ.out hb)) rfl HOK.out ho hg hp
      obtain ⟨Av, cv, rfl, -⟩ := own_shp ho
      have KR1 := Hd kr1
      have HG1 := Hd hg1
      clear ho hg hp kr1 hg1
      refine hK.out _ _ ?_
      clear hK K
      refine norm_ (a' := ?_) ?_ ?_
      rotate_left
      · show Act.put _ (some 22) _ = _
        simp only [Act.put, sA, sB, sC]
        rfl
      refine pure_ (i := 8) (N := some 23) (v := ?_) (a' := ?_) #[true, true, true, true, true, true, true, true, true, false] rfl rfl (by kernel_rfl) (fun _ _ _ h => h) (Or.inl ⟨by rfl, ?_⟩) ?_ ?_
      rotate_left; (· intro w'; go_simp; with_reducible rfl); rotate_left; (· simp only [Act.put, sA, sB, sC]; rfl)
      refine last_ (i := 9) (N := none) #[true, true, true, true, true, true, true, true, true, true] rfl rfl (by kernel_rfl) (by decide) (fun K hK => ?_)
      have z3 : W1.frozen? ⟨T, 3, none⟩ = false := (X2.out.grown HG1.out KVN.out).frozen 3
      have z4 : W1.cell? ⟨T, 3, none⟩ = some KV := ((X2.out.grown HG1.out KVN.out).cell 3).trans rfl
      refine skip_ (w1 := ?_) (by rfl) rfl ?_ ?_
      rotate_left
      · go_simp
        rfl
      refine hK.out _ _ ?_
      clear hK K
      refine done_ (by kernel_rfl) ?_
      go_wp2
      go_roundw
      case rel =>
        have hkq2 := List.take_add_one (i := k) (l := ks)
        rw [HKQ.out, Option.toList_some] at hkq2
        have hkr : ∀ b, KV.ownBlock = some b → T + 1 ≤ b := fun b hb => R2.out b hb
        have e1 := (Blk.grown RB.out HG1.out (fun e => by have := hkr _ e.symm; omega)).far (p := ⟨T, 3, none⟩) (by show W.heap.size + 1 ≠ T; omega) (.slice Av (k + 1) cv)
        have e3 := (Blk.grown SB.out HG1.out (fun e => by have := hkr _ e.symm; omega)).far (p := ⟨T, 3, none⟩) (by show W.heap.size ≠ T; omega) (.slice Av (k + 1) cv)
        have e2 := (Blk.grown X2.out HG1.out KVN.out).set_ 3 (.slice Av (k + 1) cv)
        refine ⟨k + 1, .slice Av (k + 1) cv, by omega, by go_num, e2, ?_, e1, e3, ?_, ?_⟩
        · rw [hkq2]
          have k1 := KR1.out
          rw [hln] at k1
          exact KRow.keep GmOn.keeps k1 (fun b hb _ => Below.heap_setCell W1 _ _ b (by show b ≠ T; omega)) (fun b hb _ => hb)
        · exact below_setCell' (below_grownBy BE.out BE.out.size HG1.out (fun b hb => by have := hkr b hb; omega)) (by show W.heap.size ≤ T; omega) _
        · have := HG1.out.size
          show _ < (W1.setCell _ _).heap.size
          simp [World.setCell]
          omega
      case measure => simp [intOf]; omega
    · obtain rfl : n = k := by omega
      have hkl : decide ((n : Int) < (n : Int)) = false := decide_eq_false (by omega)
      rw [List.take_of_length_le (by rw [HL.out]; exact Nat.le_refl _)] at KR
      have hgm := GmOn.made (w := w5) (k := 0) (d := q) (ns := []) (ok := fun b => T + 1 ≤ b) (by simp) (World.ownsRow_nil _ _ _ _) (fun b e => by simp [Value.ownBlock] at e) KR.out
      obtain ⟨css2, kro, -⟩ := KR.out
      obtain ⟨Av, cv, rfl, -⟩ := own_shp kro
      have HGM := Hd hgm
      obtain ⟨t0, t1, t2, t3⟩ := cells_four RB.out (.int .i64 0) (.int .i64 q) (.slice none 0 0) (.slice Av ks.length cv)
      have r0 := X2.out.cell 0
      have r1 := X2.out.cell 1
      have r2 := X2.out.cell 2
      have r3 := X2.out.cell 3
      have s0 := RB.out.cell 0
      have s1 := RB.out.cell 1
      have s2 := RB.out.cell 2
      have s3' := RB.out.cell 3
      have y0 := RB.out.frozen 0
      have y1 := RB.out.frozen 1
      have y2 := RB.out.frozen 2
      have y3 := RB.out.frozen 3
      simp at r0 r1 r2 r3 s0 s1 s2 s3'
      clear hgm kro
      go_wp2
      refine bodyPost_ret (by simp [results, Tryz.results109, go_sem, t0, t1, t2, t3]; try rfl) rfl ?_
      have hs : ∀ b, T + 1 ≤ b → ((((w5.setCell ⟨W.heap.size + 1, 0, none⟩ (.int .i64 0)).setCell ⟨W.heap.size + 1, 1, none⟩ (.int .i64 q)).setCell ⟨W.heap.size + 1, 2, none⟩ (.slice none 0 0)).setCell ⟨W.heap.size + 1, 3, none⟩ (.slice Av ks.length cv)).heap[b]? = w5.heap[b]? := fun b hb => by
        rw [Below.heap_setCell _ _ _ b (by show b ≠ W.heap.size + 1; omega), Below.heap_setCell _ _ _ b (by show b ≠ W.heap.size + 1; omega), Below.heap_setCell _ _ _ b (by show b ≠ W.heap.size + 1; omega), Below.heap_setCell _ _ _ b (by show b ≠ W.heap.size + 1; omega)]
      refine ⟨[.int .i64 0, .int .i64 q, .slice none 0 0, .slice Av ks.length cv], rfl, GmOn.keeps _ _ _ _ _ _ HGM.out (fun b hb _ => hs b hb) (fun b hb _ => by omega), ?_⟩
      exact below_setCell' (below_setCell' (below_setCell' (below_setCell' BE.out (Nat.le_succ _) _) (Nat.le_succ _) _) (Nat.le_succ _) _) (Nat.le_succ _) _

end Go.Proofs.YtofdccmmagcamaaGreatDoor

/- The thin package's plain data of a geometry. -/
set_option maxHeartbeats 8000000
set_option linter.unusedSimpArgs false
set_option linter.unusedVariables false
namespace Go.Proofs.YtofdccmmagcamaaGreatDoor
open Go.RowKit

attribute [local go_sem] run_store_float

set_option maxRecDepth 100000 in
theorem GeoType (k : Int) (u : Value) (W : World) : Calls Tryz.prog 102 #[.agg #[.int .i64 k, u]] W fun e w' => e = .returned (.int .i64 k) ∧ Below W.heap.size W w' := by
  go_enter Tryz.func102, Tryz.ntmps102
  go_wp2
  go_ret
  exact ⟨rfl, (Below.refl _ _).alloc (Nat.le_refl _) _⟩

set_option maxRecDepth 100000 in
theorem plain_Pt {ok : Nat → Prop} {x y z m : Nat} {q : Int} {f : Bool} {a : Nat} {t : Gm} (W : World) (h : PtG W ok [.float .f64 x, .float .f64 y, .float .f64 z, .float .f64 m, .int .u8 q, .bool f] t) (hb : Blk W a 109 #[.float .f64 x, .float .f64 y, .float .f64 z, .float .f64 m, .int .u8 q, .bool f]) :
    Calls Tryz.prog 44 #[.agg #[.int .i64 1, .iface 128 (.pointer (some ⟨a, 0, none⟩))]] W fun e w' => ∃ cs, e = .returned (.agg cs.toArray) ∧ GmOn w' (fun b => W.heap.size ≤ b) cs t ∧ Below W.heap.size W w' := by
  have hkeep : ∀ w, Below W.heap.size W w → PtG w (fun b => b < W.heap.size) [.float .f64 x, .float .f64 y, .float .f64 z, .float .f64 m, .int .u8 q, .bool f] t := fun w hw => PtG.keeps _ _ _ _ _ _ h (fun b _ hl => hw.block b hl) (fun b _ hl => hl)
  have HK := Hd hkeep
  have HBK := Hd hb
  have HPL := Hd (fun (w : World) (hw : Below W.heap.size W w) => plainPoint_G w (HK.out w hw))
  have b2 : Below W.heap.size W ((W.alloc (.cells #[.int .i64 1, .iface 128 (.pointer (some ⟨a, 0, none⟩))] 68)).alloc (.cells #[.int .i64 0, .int .i64 0, .slice none 0 0, .slice none 0 0] 25)) := ((Below.refl _ _).alloc (Nat.le_refl _) _).alloc (by simp) _
  have p2 := (Blk.new W 68 #[.int .i64 1, .iface 128 (.pointer (some ⟨a, 0, none⟩))]).alloc (.cells #[.int .i64 0, .int .i64 0, .slice none 0 0, .slice none 0 0] 25)
  have r2 := Blk.new (W.alloc (.cells #[.int .i64 1, .iface 128 (.pointer (some ⟨a, 0, none⟩))] 68)) 25 #[.int .i64 0, .int .i64 0, .slice none 0 0, .slice none 0 0]
  rw [World.size_alloc] at r2
  have B2 := Hd b2
  have P2 := Hd p2
  have R2 := Hd r2
  clear b2 p2 r2 hkeep h hb
  go_enter Tryz.func44, Tryz.ntmps44
  go_wp2_with fail
  refine (GeoType 1 _ _).mono ?_
  rintro e w3 ⟨rfl, b3⟩
  have s3 : W.heap.size + 2 ≤ w3.heap.size := by have := b3.size; simpa using this
  have B3 := Hd (B2.out.trans (b3.mono B2.out.size))
  have P3 := Hd (P2.out.below b3 P2.out.lt)
  have R3 := Hd (R2.out.below b3 R2.out.lt)
  have HB3 := Hd (HBK.out.below B3.out HBK.out.lt)
  have c0 := P3.out.cell 0
  have c1 := P3.out.cell 1
  simp at c0 c1
  clear b3 R2 B2 P2
  go_wp2_with fail
  refine (MustPt x y z m q f a w3 HB3.out).mono ?_
  rintro e w4 ⟨rfl, b4⟩
  have B4 := Hd (B3.out.trans (b4.mono B3.out.size))
  have R4 := Hd (R3.out.below b4 R3.out.lt)
  have s4 := b4.size
  clear b4 R3 B3 c0 c1
  go_wp2_with fail
  refine (HPL.out _ B4.out).mono ?_
  rintro e w5 ⟨cs, rfl, g5, b5⟩
  obtain ⟨yk, yd, yA, yK, yn, ym, yc, yc', rfl⟩ := g5.shape
  have B5 := Hd (B4.out.trans (b5.mono B4.out.size))
  have RB := Hd (R4.out.below b5 R4.out.lt)
  have G5 := Hd g5
  have v0 := RB.out.cell 0
  have v1 := RB.out.cell 1
  have v2 := RB.out.cell 2
  have v3 := RB.out.cell 3
  have z0 := RB.out.frozen 0
  have z1 := RB.out.frozen 1
  have z2 := RB.out.frozen 2
  have z3 := RB.out.frozen 3
  simp at v0 v1 v2 v3
  obtain ⟨f0, f1, f2, f3⟩ := cells_four RB.out (.int .i64 yk) (.int .i64 yd) (.slice yA yn yc) (.slice yK ym yc')
  clear b5 g5 R4 B4
  go_wp2
  refine bodyPost_ret (by simp [results, Tryz.results44, go_sem, f0, f1, f2, f3]; try rfl) rfl ?_
  have hk : ∀ b, W.heap.size + 2 ≤ b → ((((w5.setCell ⟨W.heap.size + 1, 0, none⟩ (.int .i64 yk)).setCell ⟨W.heap.size + 1, 1, none⟩ (.int .i64 yd)).setCell ⟨W.heap.size + 1, 2, none⟩ (.slice yA yn yc)).setCell ⟨W.heap.size + 1, 3, none⟩ (.slice yK ym yc')).heap[b]? = w5.heap[b]? := fun b hb => by
    rw [Below.heap_setCell _ _ _ b (by show b ≠ W.heap.size + 1; omega), Below.heap_setCell _ _ _ b (by show b ≠ W.heap.size + 1; omega), Below.heap_setCell _ _ _ b (by show b ≠ W.heap.size + 1; omega), Below.heap_setCell _ _ _ b (by show b ≠ W.heap.size + 1; omega)]
  exact ⟨_, rfl, GmOn.keeps _ _ _ _ _ _ G5.out (fun b hb _ => hk b (by omega)) (fun b hb _ => by omega), below_setCell' (below_setCell' (below_setCell' (below_setCell' B5.out (Nat.le_succ _) _) (Nat.le_succ _) _) (Nat.le_succ _) _) (Nat.le_succ _) _⟩

set_option maxRecDepth 100000 in
theorem plain_Ls {ok : Nat → Prop} {q : Int} {A : Option Addr} {n c : Nat} {a : Nat} {t : Gm} (W : World) (h : LsG W ok [.int .u8 q, .slice A n c] t) (hb : Blk W a 89 #[.int .u8 q, .slice A n c]) (hs : n ≤ 1000000) :
    Calls Tryz.prog 44 #[.agg #[.int .i64 2, .iface 129 (.pointer (some ⟨a, 0, none⟩))]] W fun e w' => ∃ cs, e = .returned (.agg cs.toArray) ∧ GmOn w' (fun b => W.heap.size ≤ b) cs t ∧ Below W.heap.size W w' := by
  have hkeep : ∀ w, Below W.heap.size W w → LsG w (fun b => b < W.heap.size) [.int .u8 q, .slice A n c] t := fun w hw => LsG.keeps _ _ _ _ _ _ h (fun b _ hl => hw.block b hl) (fun b _ hl => hl)
  have HK := Hd hkeep
  have HBK := Hd hb
  have HPL := Hd (fun (w : World) (hw : Below W.heap.size W w) => plainLine_G w (HK.out w hw) hs)
  have b2 : Below W.heap.size W ((W.alloc (.cells #[.int .i64 2, .iface 129 (.pointer (some ⟨a, 0, none⟩))] 68)).alloc (.cells #[.int .i64 0, .int .i64 0, .slice none 0 0, .slice none 0 0] 25)) := ((Below.refl _ _).alloc (Nat.le_refl _) _).alloc (by simp) _
  have p2 := (Blk.new W 68 #[.int .i64 2, .iface 129 (.pointer (some ⟨a, 0, none⟩))]).alloc (.cells #[.int .i64 0, .int .i64 0, .slice none 0 0, .slice none 0 0] 25)
  have r2 := Blk.new (W.alloc (.cells #[.int .i64 2, .iface 129 (.pointer (some ⟨a, 0, none⟩))] 68)) 25 #[.int .i64 0, .int .i64 0, .slice none 0 0, .slice none 0 0]
  rw [World.size_alloc] at r2
  have B2 := Hd b2
  have P2 := Hd p2
  have R2 := Hd r2
  clear b2 p2 r2 hkeep h hb hs
  go_enter Tryz.func44, Tryz.ntmps44
  go_wp2_with fail
  refine (GeoType 2 _ _).mono ?_
  rintro e w3 ⟨rfl, b3⟩
  have s3 : W.heap.size + 2 ≤ w3.heap.size := by have := b3.size; simpa using this
  have B3 := Hd (B2.out.trans (b3.mono B2.out.size))
  have P3 := Hd (P2.out.below b3 P2.out.lt)
  have R3 := Hd (R2.out.below b3 R2.out.lt)
  have HB3 := Hd (HBK.out.below B3.out HBK.out.lt)
  have c0 := P3.out.cell 0
  have c1 := P3.out.cell 1
  simp at c0 c1
  clear b3 R2 B2 P2
  go_wp2_with fail
  refine (MustLs q A n c a w3 HB3.out).mono ?_
  rintro e w4 ⟨rfl, b4⟩
  have B4 := Hd (B3.out.trans (b4.mono B3.out.size))
  have R4 := Hd (R3.out.below b4 R3.out.lt)
  have s4 := b4.size
  clear b4 R3 B3 c0 c1
  go_wp2_with fail
  refine (HPL.out _ B4.out).mono ?_
  rintro e w5 ⟨cs, rfl, g5, b5⟩
  obtain ⟨yk, yd, yA, yK, yn, ym, yc, yc', rfl⟩ := g5.shape
  have B5 := Hd (B4.out.trans (b5.mono B4.out.size))
  have RB := Hd (R4.out.below b5 R4.out.lt)
  have G5 := Hd g5
  have v0 := RB.out.cell 0
  have v1 := RB.out.cell 1
  have v2 := RB.out.cell 2
  have v3 := RB.out.cell 3
  have z0 := RB.out.frozen 0
  have z1 := RB.out.frozen 1
  have z2 := RB.out.frozen 2
  have z3 := RB.out.frozen 3
  simp at v0 v1 v2 v3
  obtain ⟨f0, f1, f2, f3⟩ := cells_four RB.out (.int .i64 yk) (.int .i64 yd) (.slice yA yn yc) (.slice yK ym yc')
  clear b5 g5 R4 B4
  go_wp2
  refine bodyPost_ret (by simp [results, Tryz.results44, go_sem, f0, f1, f2, f3]; try rfl) rfl ?_
  have hk : ∀ b, W.heap.size + 2 ≤ b → ((((w5.setCell ⟨W.heap.size + 1, 0, none⟩ (.int .i64 yk)).setCell ⟨W.heap.size + 1, 1, none⟩ (.int .i64 yd)).setCell ⟨W.heap.size + 1, 2, none⟩ (.slice yA yn yc)).setCell ⟨W.heap.size + 1, 3, none⟩ (.slice yK ym yc')).heap[b]? = w5.heap[b]? := fun b hb => by
    rw [Below.heap_setCell _ _ _ b (by show b ≠ W.heap.size + 1; omega), Below.heap_setCell _ _ _ b (by show b ≠ W.heap.size + 1; omega), Below.heap_setCell _ _ _ b (by show b ≠ W.heap.size + 1; omega), Below.heap_setCell _ _ _ b (by show b ≠ W.heap.size + 1; omega)]
  exact ⟨_, rfl, GmOn.keeps _ _ _ _ _ _ G5.out (fun b hb _ => hk b (by omega)) (fun b hb _ => by omega), below_setCell' (below_setCell' (below_setCell' (below_setCell' B5.out (Nat.le_succ _) _) (Nat.le_succ _) _) (Nat.le_succ _) _) (Nat.le_succ _) _⟩

set_option maxRecDepth 100000 in
theorem plain_Pg {ok : Nat → Prop} {A : Option Addr} {n c : Nat} {q : Int} {a : Nat} {t : Gm} (W : World) (h : PgG W ok [.slice A n c, .int .u8 q] t) (hb : Blk W a 60 #[.slice A n c, .int .u8 q]) (hs : t.np ≤ 100000) :
    Calls Tryz.prog 44 #[.agg #[.int .i64 3, .iface 130 (.pointer (some ⟨a, 0, none⟩))]] W fun e w' => ∃ cs, e = .returned (.agg cs.toArray) ∧ GmOn w' (fun b => W.heap.size ≤ b) cs t ∧ Below W.heap.size W w' := by
  have hkeep : ∀ w, Below W.heap.size W w → PgG w (fun b => b < W.heap.size) [.slice A n c, .int .u8 q] t := fun w hw => PgG.keeps _ _ _ _ _ _ h (fun b _ hl => hw.block b hl) (fun b _ hl => hl)
  have HK := Hd hkeep
  have HBK := Hd hb
  have HPL := Hd (fun (w : World) (hw : Below W.heap.size W w) => plainPolygon_G w (HK.out w hw) hs)
  have b2 : Below W.heap.size W ((W.alloc (.cells #[.int .i64 3, .iface 130 (.pointer (some ⟨a, 0, none⟩))] 68)).alloc (.cells #[.int .i64 0, .int .i64 0, .slice none 0 0, .slice none 0 0] 25)) := ((Below.refl _ _).alloc (Nat.le_refl _) _).alloc (by simp) _
  have p2 := (Blk.new W 68 #[.int .i64 3, .iface 130 (.pointer (some ⟨a, 0, none⟩))]).alloc (.cells #[.int .i64 0, .int .i64 0, .slice none 0 0, .slice none 0 0] 25)
  have r2 := Blk.new (W.alloc (.cells #[.int .i64 3, .iface 130 (.pointer (some ⟨a, 0, none⟩))] 68)) 25 #[.int .i64 0, .int .i64 0, .slice none 0 0, .slice none 0 0]
  rw [World.size_alloc] at r2
  have B2 := Hd b2
  have P2 := Hd p2
  have R2 := Hd r2
  clear b2 p2 r2 hkeep h hb hs
  go_enter Tryz.func44, Tryz.ntmps44
  go_wp2_with fail
  refine (GeoType 3 _ _).mono ?_
  rintro e w3 ⟨rfl, b3⟩
  have s3 : W.heap.size + 2 ≤ w3.heap.size := by have := b3.size; simpa using this
  have B3 := Hd (B2.out.trans (b3.mono B2.out.size))
  have P3 := Hd (P2.out.below b3 P2.out.lt)
  have R3 := Hd (R2.out.below b3 R2.out.lt)
  have HB3 := Hd (HBK.out.below B3.out HBK.out.lt)
  have c0 := P3.out.cell 0
  have c1 := P3.out.cell 1
  simp at c0 c1
  clear b3 R2 B2 P2
  go_wp2_with fail
  refine (MustPg A n c q a w3 HB3.out).mono ?_
  rintro e w4 ⟨rfl, b4⟩
  have B4 := Hd (B3.out.trans (b4.mono B3.out.size))
  have R4 := Hd (R3.out.below b4 R3.out.lt)
  have s4 := b4.size
  clear b4 R3 B3 c0 c1
  go_wp2_with fail
  refine (HPL.out _ B4.out).mono ?_
  rintro e w5 ⟨cs, rfl, g5, b5⟩
  obtain ⟨yk, yd, yA, yK, yn, ym, yc, yc', rfl⟩ := g5.shape
  have B5 := Hd (B4.out.trans (b5.mono B4.out.size))
  have RB := Hd (R4.out.below b5 R4.out.lt)
  have G5 := Hd g5
  have v0 := RB.out.cell 0
  have v1 := RB.out.cell 1
  have v2 := RB.out.cell 2
  have v3 := RB.out.cell 3
  have z0 := RB.out.frozen 0
  have z1 := RB.out.frozen 1
  have z2 := RB.out.frozen 2
  have z3 := RB.out.frozen 3
  simp at v0 v1 v2 v3
  obtain ⟨f0, f1, f2, f3⟩ := cells_four RB.out (.int .i64 yk) (.int .i64 yd) (.slice yA yn yc) (.slice yK ym yc')
  clear b5 g5 R4 B4
  go_wp2
  refine bodyPost_ret (by simp [results, Tryz.results44, go_sem, f0, f1, f2, f3]; try rfl) rfl ?_
  have hk : ∀ b, W.heap.size + 2 ≤ b → ((((w5.setCell ⟨W.heap.size + 1, 0, none⟩ (.int .i64 yk)).setCell ⟨W.heap.size + 1, 1, none⟩ (.int .i64 yd)).setCell ⟨W.heap.size + 1, 2, none⟩ (.slice yA yn yc)).setCell ⟨W.heap.size + 1, 3, none⟩ (.slice yK ym yc')).heap[b]? = w5.heap[b]? := fun b hb => by
    rw [Below.heap_setCell _ _ _ b (by show b ≠ W.heap.size + 1; omega), Below.heap_setCell _ _ _ b (by show b ≠ W.heap.size + 1; omega), Below.heap_setCell _ _ _ b (by show b ≠ W.heap.size + 1; omega), Below.heap_setCell _ _ _ b (by show b ≠ W.heap.size + 1; omega)]
  exact ⟨_, rfl, GmOn.keeps _ _ _ _ _ _ G5.out (fun b hb _ => hk b (by omega)) (fun b hb _ => by omega), below_setCell' (below_setCell' (below_setCell' (below_setCell' B5.out (Nat.le_succ _) _) (Nat.le_succ _) _) (Nat.le_succ _) _) (Nat.le_succ _) _⟩

set_option maxRecDepth 100000 in
theorem plain_Mp {ok : Nat → Prop} {A : Option Addr} {n c : Nat} {q : Int} {a : Nat} {t : Gm} (W : World) (h : MpG W ok [.slice A n c, .int .u8 q] t) (hb : Blk W a 114 #[.slice A n c, .int .u8 q]) (hs : t.np ≤ 100000) :
    Calls Tryz.prog 44 #[.agg #[.int .i64 4, .iface 131 (.pointer (some ⟨a, 0, none⟩))]] W fun e w' => ∃ cs, e = .returned (.agg cs.toArray) ∧ GmOn w' (fun b => W.heap.size ≤ b) cs t ∧ Below W.heap.size W w' := by
  have hkeep : ∀ w, Below W.heap.size W w → MpG w (fun b => b < W.heap.size) [.slice A n c, .int .u8 q] t := fun w hw => MpG.keeps _ _ _ _ _ _ h (fun b _ hl => hw.block b hl) (fun b _ hl => hl)
  have HK := Hd hkeep
  have HBK := Hd hb
  have HPL := Hd (fun (w : World) (hw : Below W.heap.size W w) => plainMultiPoint_G w (HK.out w hw) hs)
  have b2 : Below W.heap.size W ((W.alloc (.cells #[.int .i64 4, .iface 131 (.pointer (some ⟨a, 0, none⟩))] 68)).alloc (.cells #[.int .i64 0, .int .i64 0, .slice none 0 0, .slice none 0 0] 25)) := ((Below.refl _ _).alloc (Nat.le_refl _) _).alloc (by simp) _
  have p2 := (Blk.new W 68 #[.int .i64 4, .iface 131 (.pointer (some ⟨a, 0, none⟩))]).alloc (.cells #[.int .i64 0, .int .i64 0, .slice none 0 0, .slice none 0 0] 25)
  have r2 := Blk.new (W.alloc (.cells #[.int .i64 4, .iface 131 (.pointer (some ⟨a, 0, none⟩))] 68)) 25 #[.int .i64 0, .int .i64 0, .slice none 0 0, .slice none 0 0]
  rw [World.size_alloc] at r2
  have B2 := Hd b2
  have P2 := Hd p2
  have R2 := Hd r2
  clear b2 p2 r2 hkeep h hb hs
  go_enter Tryz.func44, Tryz.ntmps44
  go_wp2_with fail
  refine (GeoType 4 _ _).mono ?_
  rintro e w3 ⟨rfl, b3⟩
  have s3 : W.heap.size + 2 ≤ w3.heap.size := by have := b3.size; simpa using this
  have B3 := Hd (B2.out.trans (b3.mono B2.out.size))
  have P3 := Hd (P2.out.below b3 P2.out.lt)
  have R3 := Hd (R2.out.below b3 R2.out.lt)
  have HB3 := Hd (HBK.out.below B3.out HBK.out.lt)
  have c0 := P3.out.cell 0
  have c1 := P3.out.cell 1
  simp at c0 c1
  clear b3 R2 B2 P2
  go_wp2_with fail
  refine (MustMp A n c q a w3 HB3.out).mono ?_
  rintro e w4 ⟨rfl, b4⟩
  have B4 := Hd (B3.out.trans (b4.mono B3.out.size))
  have R4 := Hd (R3.out.below b4 R3.out.lt)
  have s4 := b4.size
  clear b4 R3 B3 c0 c1
  go_wp2_with fail
  refine (HPL.out _ B4.out).mono ?_
  rintro e w5 ⟨cs, rfl, g5, b5⟩
  obtain ⟨yk, yd, yA, yK, yn, ym, yc, yc', rfl⟩ := g5.shape
  have B5 := Hd (B4.out.trans (b5.mono B4.out.size))
  have RB := Hd (R4.out.below b5 R4.out.lt)
  have G5 := Hd g5
  have v0 := RB.out.cell 0
  have v1 := RB.out.cell 1
  have v2 := RB.out.cell 2
  have v3 := RB.out.cell 3
  have z0 := RB.out.frozen 0
  have z1 := RB.out.frozen 1
  have z2 := RB.out.frozen 2
  have z3 := RB.out.frozen 3
  simp at v0 v1 v2 v3
  obtain ⟨f0, f1, f2, f3⟩ := cells_four RB.out (.int .i64 yk) (.int .i64 yd) (.slice yA yn yc) (.slice yK ym yc')
  clear b5 g5 R4 B4
  go_wp2
  refine bodyPost_ret (by simp [results, Tryz.results44, go_sem, f0, f1, f2, f3]; try rfl) rfl ?_
  have hk : ∀ b, W.heap.size + 2 ≤ b → ((((w5.setCell ⟨W.heap.size + 1, 0, none⟩ (.int .i64 yk)).setCell ⟨W.heap.size + 1, 1, none⟩ (.int .i64 yd)).setCell ⟨W.heap.size + 1, 2, none⟩ (.slice yA yn yc)).setCell ⟨W.heap.size + 1, 3, none⟩ (.slice yK ym yc')).heap[b]? = w5.heap[b]? := fun b hb => by
    rw [Below.heap_setCell _ _ _ b (by show b ≠ W.heap.size + 1; omega), Below.heap_setCell _ _ _ b (by show b ≠ W.heap.size + 1; omega), Below.heap_setCell _ _ _ b (by show b ≠ W.heap.size + 1; omega), Below.heap_setCell _ _ _ b (by show b ≠ W.heap.size + 1; omega)]
  exact ⟨_, rfl, GmOn.keeps _ _ _ _ _ _ G5.out (fun b hb _ => hk b (by omega)) (fun b hb _ => by omega), below_setCell' (below_setCell' (below_setCell' (below_setCell' B5.out (Nat.le_succ _) _) (Nat.le_succ _) _) (Nat.le_succ _) _) (Nat.le_succ _) _⟩

set_option maxRecDepth 100000 in
theorem plain_Ml {ok : Nat → Prop} {A : Option Addr} {n c : Nat} {q : Int} {a : Nat} {t : Gm} (W : World) (h : MlG W ok [.slice A n c, .int .u8 q] t) (hb : Blk W a 117 #[.slice A n c, .int .u8 q]) (hs : t.np ≤ 100000) :
    Calls Tryz.prog 44 #[.agg #[.int .i64 5, .iface 132 (.pointer (some ⟨a, 0, none⟩))]] W fun e w' => ∃ cs, e = .returned (.agg cs.toArray) ∧ GmOn w' (fun b => W.heap.size ≤ b) cs t ∧ Below W.heap.size W w' := by
  have hkeep : ∀ w, Below W.heap.size W w → MlG w (fun b => b < W.heap.size) [.slice A n c, .int .u8 q] t := fun w hw => MlG.keeps _ _ _ _ _ _ h (fun b _ hl => hw.block b hl) (fun b _ hl => hl)
  have HK := Hd hkeep
  have HBK := Hd hb
  have HPL := Hd (fun (w : World) (hw : Below W.heap.size W w) => plainMultiLine_G w (HK.out w hw) hs)
  have b2 : Below W.heap.size W ((W.alloc (.cells #[.int .i64 5, .iface 132 (.pointer (some ⟨a, 0, none⟩))] 68)).alloc (.cells #[.int .i64 0, .int .i64 0, .slice none 0 0, .slice none 0 0] 25)) := ((Below.refl _ _).alloc (Nat.le_refl _) _).alloc (by simp) _
  have p2 := (Blk.new W 68 #[.int .i64 5, .iface 132 (.pointer (some ⟨a, 0, none⟩))]).alloc (.cells #[.int .i64 0, .int .i64 0, .slice none 0 0, .slice none 0 0] 25)
  have r2 := Blk.new (W.alloc (.cells #[.int .i64 5, .iface 132 (.pointer (some ⟨a, 0, none⟩))] 68)) 25 #[.int .i64 0, .int .i64 0, .slice none 0 0, .slice none 0 0]
  rw [World.size_alloc] at r2
  have B2 := Hd b2
  have P2 := Hd p2
  have R2 := Hd r2
  clear b2 p2 r2 hkeep h hb hs
  go_enter Tryz.func44, Tryz.ntmps44
  go_wp2_with fail
  refine (GeoType 5 _ _).mono ?_
  rintro e w3 ⟨rfl, b3⟩
  have s3 : W.heap.size + 2 ≤ w3.heap.size := by have := b3.size; simpa using this
  have B3 := Hd (B2.out.trans (b3.mono B2.out.size))
  have P3 := Hd (P2.out.below b3 P2.out.lt)
  have R3 := Hd (R2.out.below b3 R2.out.lt)
  have HB3 := Hd (HBK.out.below B3.out HBK.out.lt)
  have c0 := P3.out.cell 0
  have c1 := P3.out.cell 1
  simp at c0 c1
  clear b3 R2 B2 P2
  go_wp2_with fail
  refine (MustMl A n c q a w3 HB3.out).mono ?_
  rintro e w4 ⟨rfl, b4⟩
  have B4 := Hd (B3.out.trans (b4.mono B3.out.size))
  have R4 := Hd (R3.out.below b4 R3.out.lt)
  have s4 := b4.size
  clear b4 R3 B3 c0 c1
  go_wp2_with fail
  refine (HPL.out _ B4.out).mono ?_
  rintro e w5 ⟨cs, rfl, g5, b5⟩
  obtain ⟨yk, yd, yA, yK, yn, ym, yc, yc', rfl⟩ := g5.shape
  have B5 := Hd (B4.out.trans (b5.mono B4.out.size))
  have RB := Hd (R4.out.below b5 R4.out.lt)
  have G5 := Hd g5
  have v0 := RB.out.cell 0
  have v1 := RB.out.cell 1
  have v2 := RB.out.cell 2
  have v3 := RB.out.cell 3
  have z0 := RB.out.frozen 0
  have z1 := RB.out.frozen 1
  have z2 := RB.out.frozen 2
  have z3 := RB.out.frozen 3
  simp at v0 v1 v2 v3
  obtain ⟨f0, f1, f2, f3⟩ := cells_four RB.out (.int .i64 yk) (.int .i64 yd) (.slice yA yn yc) (.slice yK ym yc')
  clear b5 g5 R4 B4
  go_wp2
  refine bodyPost_ret (by simp [results, Tryz.results44, go_sem, f0, f1, f2, f3]; try rfl) rfl ?_
  have hk : ∀ b, W.heap.size + 2 ≤ b → ((((w5.setCell ⟨W.heap.size + 1, 0, none⟩ (.int .i64 yk)).setCell ⟨W.heap.size + 1, 1, none⟩ (.int .i64 yd)).setCell ⟨W.heap.size + 1, 2, none⟩ (.slice yA yn yc)).setCell ⟨W.heap.size + 1, 3, none⟩ (.slice yK ym yc')).heap[b]? = w5.heap[b]? := fun b hb => by
    rw [Below.heap_setCell _ _ _ b (by show b ≠ W.heap.size + 1; omega), Below.heap_setCell _ _ _ b (by show b ≠ W.heap.size + 1; omega), Below.heap_setCell _ _ _ b (by show b ≠ W.heap.size + 1; omega), Below.heap_setCell _ _ _ b (by show b ≠ W.heap.size + 1; omega)]
  exact ⟨_, rfl, GmOn.keeps _ _ _ _ _ _ G5.out (fun b hb _ => hk b (by omega)) (fun b hb _ => by omega), below_setCell' (below_setCell' (below_setCell' (below_setCell' B5.out (Nat.le_succ _) _) (Nat.le_succ _) _) (Nat.le_succ _) _) (Nat.le_succ _) _⟩

set_option maxRecDepth 100000 in
theorem plain_My {ok : Nat → Prop} {A : Option Addr} {n c : Nat} {q : Int} {a : Nat} {t : Gm} (W : World) (h : MyG W ok [.slice A n c, .int .u8 q] t) (hb : Blk W a 121 #[.slice A n c, .int .u8 q]) (hs : t.np ≤ 100000) :
    Calls Tryz.prog 44 #[.agg #[.int .i64 6, .iface 133 (.pointer (some ⟨a, 0, none⟩))]] W fun e w' => ∃ cs, e = .returned (.agg cs.toArray) ∧ GmOn w' (fun b => W.heap.size ≤ b) cs t ∧ Below W.heap.size W w' := by
  have hkeep : ∀ w, Below W.heap.size W w → MyG w (fun b => b < W.heap.size) [.slice A n c, .int .u8 q] t := fun w hw => MyG.keeps _ _ _ _ _ _ h (fun b _ hl => hw.block b hl) (fun b _ hl => hl)
  have HK := Hd hkeep
  have HBK := Hd hb
  have HPL := Hd (fun (w : World) (hw : Below W.heap.size W w) => plainMultiPolygon_G w (HK.out w hw) hs)
  have b2 : Below W.heap.size W ((W.alloc (.cells #[.int .i64 6, .iface 133 (.pointer (some ⟨a, 0, none⟩))] 68)).alloc (.cells #[.int .i64 0, .int .i64 0, .slice none 0 0, .slice none 0 0] 25)) := ((Below.refl _ _).alloc (Nat.le_refl _) _).alloc (by simp) _
  have p2 := (Blk.new W 68 #[.int .i64 6, .iface 133 (.pointer (some ⟨a, 0, none⟩))]).alloc (.cells #[.int .i64 0, .int .i64 0, .slice none 0 0, .slice none 0 0] 25)
  have r2 := Blk.new (W.alloc (.cells #[.int .i64 6, .iface 133 (.pointer (some ⟨a, 0, none⟩))] 68)) 25 #[.int .i64 0, .int .i64 0, .slice none 0 0, .slice none 0 0]
  rw [World.size_alloc] at r2
  have B2 := Hd b2
  have P2 := Hd p2
  have R2 := Hd r2
  clear b2 p2 r2 hkeep h hb hs
  go_enter Tryz.func44, Tryz.ntmps44
  go_wp2_with fail
  refine (GeoType 6 _ _).mono ?_
  rintro e w3 ⟨rfl, b3⟩
  have s3 : W.heap.size + 2 ≤ w3.heap.size := by have := b3.size; simpa using this
  have B3 := Hd (B2.out.trans (b3.mono B2.out.size))
  have P3 := Hd (P2.out.below b3 P2.out.lt)
  have R3 := Hd (R2.out.below b3 R2.out.lt)
  have HB3 := Hd (HBK.out.below B3.out HBK.out.lt)
  have c0 := P3.out.cell 0
  have c1 := P3.out.cell 1
  simp at c0 c1
  clear b3 R2 B2 P2
  go_wp2_with fail
  refine (MustMy A n c q a w3 HB3.out).mono ?_
  rintro e w4 ⟨rfl, b4⟩
  have B4 := Hd (B3.out.trans (b4.mono B3.out.size))
  have R4 := Hd (R3.out.below b4 R3.out.lt)
  have s4 := b4.size
  clear b4 R3 B3 c0 c1
  go_wp2_with fail
  refine (HPL.out _ B4.out).mono ?_
  rintro e w5 ⟨cs, rfl, g5, b5⟩
  obtain ⟨yk, yd, yA, yK, yn, ym, yc, yc', rfl⟩ := g5.shape
  have B5 := Hd (B4.out.trans (b5.mono B4.out.size))
  have RB := Hd (R4.out.below b5 R4.out.lt)
  have G5 := Hd g5
  have v0 := RB.out.cell 0
  have v1 := RB.out.cell 1
  have v2 := RB.out.cell 2
  have v3 := RB.out.cell 3
  have z0 := RB.out.frozen 0
  have z1 := RB.out.frozen 1
  have z2 := RB.out.frozen 2
  have z3 := RB.out.frozen 3
  simp at v0 v1 v2 v3
  obtain ⟨f0, f1, f2, f3⟩ := cells_four RB.out (.int .i64 yk) (.int .i64 yd) (.slice yA yn yc) (.slice yK ym yc')
  clear b5 g5 R4 B4
  go_wp2
  refine bodyPost_ret (by simp [results, Tryz.results44, go_sem, f0, f1, f2, f3]; try rfl) rfl ?_
  have hk : ∀ b, W.heap.size + 2 ≤ b → ((((w5.setCell ⟨W.heap.size + 1, 0, none⟩ (.int .i64 yk)).setCell ⟨W.heap.size + 1, 1, none⟩ (.int .i64 yd)).setCell ⟨W.heap.size + 1, 2, none⟩ (.slice yA yn yc)).setCell ⟨W.heap.size + 1, 3, none⟩ (.slice yK ym yc')).heap[b]? = w5.heap[b]? := fun b hb => by
    rw [Below.heap_setCell _ _ _ b (by show b ≠ W.heap.size + 1; omega), Below.heap_setCell _ _ _ b (by show b ≠ W.heap.size + 1; omega), Below.heap_setCell _ _ _ b (by show b ≠ W.heap.size + 1; omega), Below.heap_setCell _ _ _ b (by show b ≠ W.heap.size + 1; omega)]
  exact ⟨_, rfl, GmOn.keeps _ _ _ _ _ _ G5.out (fun b hb _ => hk b (by omega)) (fun b hb _ => by omega), below_setCell' (below_setCell' (below_setCell' (below_setCell' B5.out (Nat.le_succ _) _) (Nat.le_succ _) _) (Nat.le_succ _) _) (Nat.le_succ _) _⟩

set_option maxRecDepth 100000 in
theorem plain_Gc {ok : Nat → Prop} {A : Option Addr} {n c : Nat} {q : Int} {a : Nat} {t : Gm} (W : World) (h : GcG W ok [.slice A n c, .int .u8 q] t) (hb : Blk W a 125 #[.slice A n c, .int .u8 q]) (hs : t.np ≤ 100000) (ih : ∀ s ∈ t.kids, ∀ (w : World) (ok : Nat → Prop) (x : List Value), GeoG w ok x s → s.np ≤ 100000 → Calls Tryz.prog 44 #[.agg x.toArray] w fun e w' => ∃ cs, e = .returned (.agg cs.toArray) ∧ GmOn w' (fun b => w.heap.size ≤ b) cs s ∧ Below w.heap.size w w') :
    Calls Tryz.prog 44 #[.agg #[.int .i64 0, .iface 127 (.pointer (some ⟨a, 0, none⟩))]] W fun e w' => ∃ cs, e = .returned (.agg cs.toArray) ∧ GmOn w' (fun b => W.heap.size ≤ b) cs t ∧ Below W.heap.size W w' := by
  have hkeep : ∀ w, Below W.heap.size W w → GcG w (fun b => b < W.heap.size) [.slice A n c, .int .u8 q] t := fun w hw => GcG.keeps _ _ _ _ _ _ h (fun b _ hl => hw.block b hl) (fun b _ hl => hl)
  have HK := Hd hkeep
  have HBK := Hd hb
  have HPL := Hd (fun (w : World) (hw : Below W.heap.size W w) => plainCollection_G w (HK.out w hw) hs ih)
  have b2 : Below W.heap.size W ((W.alloc (.cells #[.int .i64 0, .iface 127 (.pointer (some ⟨a, 0, none⟩))] 68)).alloc (.cells #[.int .i64 0, .int .i64 0, .slice none 0 0, .slice none 0 0] 25)) := ((Below.refl _ _).alloc (Nat.le_refl _) _).alloc (by simp) _
  have p2 := (Blk.new W 68 #[.int .i64 0, .iface 127 (.pointer (some ⟨a, 0, none⟩))]).alloc (.cells #[.int .i64 0, .int .i64 0, .slice none 0 0, .slice none 0 0] 25)
  have r2 := Blk.new (W.alloc (.cells #[.int .i64 0, .iface 127 (.pointer (some ⟨a, 0, none⟩))] 68)) 25 #[.int .i64 0, .int .i64 0, .slice none 0 0, .slice none 0 0]
  rw [World.size_alloc] at r2
  have B2 := Hd b2
  have P2 := Hd p2
  have R2 := Hd r2
  clear b2 p2 r2 hkeep h hb hs ih
  go_enter Tryz.func44, Tryz.ntmps44
  go_wp2_with fail
  refine (GeoType 0 _ _).mono ?_
  rintro e w3 ⟨rfl, b3⟩
  have s3 : W.heap.size + 2 ≤ w3.heap.size := by have := b3.size; simpa using this
  have B3 := Hd (B2.out.trans (b3.mono B2.out.size))
  have P3 := Hd (P2.out.below b3 P2.out.lt)
  have R3 := Hd (R2.out.below b3 R2.out.lt)
  have HB3 := Hd (HBK.out.below B3.out HBK.out.lt)
  have c0 := P3.out.cell 0
  have c1 := P3.out.cell 1
  simp at c0 c1
  clear b3 R2 B2 P2
  go_wp2_with fail
  refine (MustGc A n c q a w3 HB3.out).mono ?_
  rintro e w4 ⟨rfl, b4⟩
  have B4 := Hd (B3.out.trans (b4.mono B3.out.size))
  have R4 := Hd (R3.out.below b4 R3.out.lt)
  have s4 := b4.size
  clear b4 R3 B3 c0 c1
  go_wp2_with fail
  refine (HPL.out _ B4.out).mono ?_
  rintro e w5 ⟨cs, rfl, g5, b5⟩
  obtain ⟨yk, yd, yA, yK, yn, ym, yc, yc', rfl⟩ := g5.shape
  have B5 := Hd (B4.out.trans (b5.mono B4.out.size))
  have RB := Hd (R4.out.below b5 R4.out.lt)
  have G5 := Hd g5
  have v0 := RB.out.cell 0
  have v1 := RB.out.cell 1
  have v2 := RB.out.cell 2
  have v3 := RB.out.cell 3
  have z0 := RB.out.frozen 0
  have z1 := RB.out.frozen 1
  have z2 := RB.out.frozen 2
  have z3 := RB.out.frozen 3
  simp at v0 v1 v2 v3
  obtain ⟨f0, f1, f2, f3⟩ := cells_four RB.out (.int .i64 yk) (.int .i64 yd) (.slice yA yn yc) (.slice yK ym yc')
  clear b5 g5 R4 B4
  go_wp2
  refine bodyPost_ret (by simp [results, Tryz.results44, go_sem, f0, f1, f2, f3]; try rfl) rfl ?_
  have hk : ∀ b, W.heap.size + 2 ≤ b → ((((w5.setCell ⟨W.heap.size + 1, 0, none⟩ (.int .i64 yk)).setCell ⟨W.heap.size + 1, 1, none⟩ (.int .i64 yd)).setCell ⟨W.heap.size + 1, 2, none⟩ (.slice yA yn yc)).setCell ⟨W.heap.size + 1, 3, none⟩ (.slice yK ym yc')).heap[b]? = w5.heap[b]? := fun b hb => by
    rw [Below.heap_setCell _ _ _ b (by show b ≠ W.heap.size + 1; omega), Below.heap_setCell _ _ _ b (by show b ≠ W.heap.size + 1; omega), Below.heap_setCell _ _ _ b (by show b ≠ W.heap.size + 1; omega), Below.heap_setCell _ _ _ b (by show b ≠ W.heap.size + 1; omega)]
  exact ⟨_, rfl, GmOn.keeps _ _ _ _ _ _ G5.out (fun b hb _ => hk b (by omega)) (fun b hb _ => by omega), below_setCell' (below_setCell' (below_setCell' (below_setCell' B5.out (Nat.le_succ _) _) (Nat.le_succ _) _) (Nat.le_succ _) _) (Nat.le_succ _) _⟩

theorem ls_len {w : World} {ok : Nat → Prop} {q : Int} {A : Option Addr} {n c : Nat} {t : Gm} (h : LsG w ok [.int .u8 q, .slice A n c] t) (hs : t.np ≤ 100000) : n ≤ 1000000 := by
  obtain ⟨q1, ns, rfl, A1, n1, c1, e, a0, a1, a2, a3, a4, a5⟩ := h
  simp only [List.cons.injEq, Value.slice.injEq, Value.int.injEq, and_true, true_and] at e
  obtain ⟨rfl, rfl, rfl, rfl⟩ := e
  rw [np_mk] at hs
  simp only at a0 a1 a2 a3
  have hw := wd_cases q a0 a1
  rw [← a2]
  have h4 : ns.length / wd q ≤ 100000 := by omega
  rcases hw with ⟨_, h⟩ | ⟨_, h⟩ | ⟨_, h⟩ | ⟨_, h⟩ <;> rw [h] at h4 <;> omega
theorem plain_G (m : Nat) : ∀ (t : Gm), t.sz ≤ m → ∀ (w : World) (ok : Nat → Prop) (x : List Value), GeoG w ok x t → t.np ≤ 100000 → Calls Tryz.prog 44 #[.agg x.toArray] w fun e w' => ∃ cs, e = .returned (.agg cs.toArray) ∧ GmOn w' (fun b => w.heap.size ≤ b) cs t ∧ Below w.heap.size w w' := by
  induction m with
  | zero => exact fun t ht => absurd (sz_pos t) (by omega)
  | succ m ihm =>
    intro t ht w ok x h hs
    cases h with
    | leaf hl ha hb =>
      rcases hl with ⟨rfl, rfl, rfl, h⟩ | ⟨rfl, rfl, rfl, h⟩ | ⟨rfl, rfl, rfl, h⟩ | ⟨rfl, rfl, rfl, h⟩ | ⟨rfl, rfl, rfl, h⟩ | ⟨rfl, rfl, rfl, h⟩
      · obtain ⟨_, _, _, _, _, _, rfl, -⟩ := h.shape
        exact plain_Pt w h hb
      · obtain ⟨_, _, _, _, rfl, -⟩ := h.shape
        exact plain_Ls w h hb (ls_len h hs)
      · obtain ⟨_, _, _, _, rfl, -⟩ := RowG.shape h
        exact plain_Pg w h hb hs
      · obtain ⟨_, _, _, _, rfl, -⟩ := RowG.shape h
        exact plain_Mp w h hb hs
      · obtain ⟨_, _, _, _, rfl, -⟩ := RowG.shape h
        exact plain_Ml w h hb hs
      · obtain ⟨_, _, _, _, rfl, -⟩ := RowG.shape h
        exact plain_My w h hb hs
    | @gc _ a A n c q ks css ha hb q0 q1 hl hn ho h2 h3 h4 h5 =>
      refine plain_Gc (q := q) w ⟨A, n, c, q, ks, rfl, rfl, q0, q1, hl, hn, css, ho, h2, h3, h4, h5⟩ hb hs (fun s hsm w' ok' x' hx hnp => ihm s ?_ w' ok' x' hx hnp)
      unfold Gm.sz at ht
      obtain ⟨i, hi⟩ := List.mem_iff_getElem?.1 (show s ∈ ks from hsm)
      have := sz_kid hi
      omega

end Go.Proofs.YtofdccmmagcamaaGreatDoor
