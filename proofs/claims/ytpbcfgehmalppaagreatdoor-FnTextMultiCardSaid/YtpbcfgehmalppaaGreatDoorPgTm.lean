/- Geometries of parts made of plain data. -/
import Derived.Test.YtpbcfgehmalppaaGreatDoorPgRm
import Derived.Test.YtpbcfgehmalppaaGreatDoorPgSm
namespace Go.Proofs.YtpbcfgehmalppaaGreatDoor
open Go.RowKit Go.Proofs.YtpbcfgehmalppaaGreatDoorW.PrintLast

attribute [local go_sem] run_store_float

set_option maxHeartbeats 8000000 in
set_option maxRecDepth 100000 in
theorem multiLine_G {w0 : World} {B : Nat} {v : Value} {t : Gm} (h : GmAt w0 B v t) (hk : t.k = 5) (hs : t.sz ≤ 100000) (W : World) (hb : Below B w0 W) (hB : B ≤ W.heap.size) :
    Calls Tryz.prog 41 #[v] W fun e w' => ∃ (A : Option Addr) (n c : Nat) (q : Int), e = .returned (.agg #[.slice A n c, .int .u8 q]) ∧ MlG w' (fun b => W.heap.size ≤ b) [.slice A n c, .int .u8 q] (newT t) ∧ Below W.heap.size W w' := by
  cases h with
  | @mk k d ns ks n m A K c c' us en em hn hbs hcap hkk hss =>
  unfold Gm.k at hk
  simp only at hk
  subst hk
  unfold Gm.sz at hs
  have hlen := szs_len ks
  have hmm : m ≤ 100000 := by omega
  have hnt : newT (.mk 5 d ns ks) = partsT 5 (d % 4) ((ks.map newT).filter (keepT 5)) := by
    rw [newT_mk, if_neg (by decide)]
    rfl
  have q0 : 0 ≤ d % 4 := by omega
  have q1 : d % 4 ≤ 3 := by omega
  rw [hnt]
  generalize hT : partsT 5 (d % 4) ((ks.map newT).filter (keepT 5)) = T
  have HPT := Lib.hid hT
  clear hT
  have HK := Lib.hid hkk
  have HS := Lib.hid hss
  have HEM := Lib.hid em
  have HBL := Lib.hid hb
  have b0 := (Blk.new W 25 #[.int .i64 5, .int .i64 d, .slice A n c, .slice K m c']).alloc (.cells #[.slice none 0 0, .int .u8 0] 67)
  have b1 := Blk.new (W.alloc (.cells #[.int .i64 5, .int .i64 d, .slice A n c, .slice K m c'] 25)) 67 #[.slice none 0 0, .int .u8 0]
  have hbw : Below W.heap.size W ((W.alloc (.cells #[.int .i64 5, .int .i64 d, .slice A n c, .slice K m c'] 25)).alloc (.cells #[.slice none 0 0, .int .u8 0] 67)) := ((Below.refl W.heap.size W).alloc (Nat.le_refl _) _).alloc (by simp) _
  have hsz3 : W.heap.size + 2 ≤ ((W.alloc (.cells #[.int .i64 5, .int .i64 d, .slice A n c, .slice K m c'] 25)).alloc (.cells #[.slice none 0 0, .int .u8 0] 67)).heap.size := by simp
  rw [World.size_alloc] at b1
  have B0 := Lib.hid b0
  have B1 := Lib.hid b1
  have HB3 := Lib.hid hbw
  clear hkk hss em hb b0 b1 hbw hn hbs hcap en hnt
  go_enter Tryz.func41, Tryz.ntmps41
  go_wp2_with fail
  generalize (W.alloc (.cells #[.int .i64 5, .int .i64 d, .slice A n c, .slice K m c'] 25)).alloc (.cells #[.slice none 0 0, .int .u8 0] 67) = w3 at *
  go_loopw [3, 9] (fun u i wr => ∃ q : Nat, q ≤ m ∧ i = .int .i64 q ∧ Blk wr W.heap.size 25 #[.int .i64 5, .int .i64 d, .slice A n c, .slice K m c'] ∧ Blk wr (W.heap.size + 1) 67 #[.slice none 0 0, .int .u8 0] ∧
    KRow LsG 93 2 wr (fun b => W.heap.size + 2 ≤ b) u (((ks.take q).map newT).filter (keepT 5)) ∧ Below W.heap.size W wr ∧ W.heap.size + 2 ≤ wr.heap.size) (fun _ i _ => m - (intOf i).toNat)
  case atStart => exact ⟨0, Nat.zero_le _, rfl, B0.out, B1.out, KRow.nil _ _, HB3.out, hsz3⟩
  case round =>
    obtain ⟨q, hq, rfl, x0, x1, kr, hbr, hsr⟩ := hrel
    by_cases hlt : q < m
    · have hkq : ks[q]? = some (ks[q]'(by rw [HEM.out]; exact hlt)) := List.getElem?_eq_getElem _
      generalize (ks[q]'(by rw [HEM.out]; exact hlt)) = t at hkq
      obtain ⟨ad, rfl, hab, hcell⟩ := HK.out q hlt
      have hWr : Below B W wr := hbr.mono hB
      have hcc : ∀ j, j < 4 → wr.cell? (ad.add (q * 4 + j)) = some (us q j) := fun j hj => (hWr.cell (by rw [block_of_add]; exact hab)).trans ((HBL.out.cell (by rw [block_of_add]; exact hab)).trans (hcell j hj))
      obtain ⟨d0, d1, d2, d3⟩ := cells4 hcc
      have hgm := HS.out q t hkq
      obtain ⟨xk, xd, xA, xK, xn, xm, xc, xc', g0, g1, g2, g3⟩ := hgm.shape
      rw [g0, g1, g2, g3] at hgm
      rw [g0] at d0
      rw [g1] at d1
      rw [g2] at d2
      rw [g3] at d3
      have hxk := gmAt_k hgm
      have hkeep : keepT 5 (newT t) = decide (xk = 2) := by
        unfold keepT
        rw [newT_k, hxk]
        exact kid_k5 xk
      have hrt : ((ks.take (q + 1)).map newT).filter (keepT 5) = ((ks.take q).map newT).filter (keepT 5) ++ (if xk = 2 then [newT t] else []) := by
        rw [List.take_add_one, hkq, Option.toList_some, List.map_append, List.filter_append, List.map_singleton, List.filter_cons, List.filter_nil, hkeep]
        by_cases h : xk = 2
        · rw [if_pos h, decide_eq_true h]; rfl
        · rw [if_neg h, decide_eq_false h]; rfl
      have hxs : t.sz ≤ 100000 := by
        have := sz_kid hkq
        omega
      obtain ⟨css2, r1, r2, r3', r4, r5⟩ := kr
      have hlq : (((ks.take q).map newT).filter (keepT 5)).length ≤ q := Nat.le_trans (List.length_filter_le _ _) (by rw [List.length_map, List.length_take]; omega)
      obtain ⟨i0, hi0, hz0, hz1, hz2⟩ := info_parts info_ls
      have hcall := fun hx : xk = 2 => line_G hgm (hxk.trans hx) hxs (wr.alloc (.cells #[.int .i64 xk, .int .i64 xd, .slice xA xn xc, .slice xK xm xc'] 25)) ((HBL.out.trans hWr).alloc (by omega) _) (by simp; omega)
      have HC := Lib.hid hcall
      have HRT := Lib.hid hrt
      have X0 := Lib.hid x0
      have X1 := Lib.hid x1
      have HBR := Lib.hid hbr
      have R1 := Lib.hid r1
      have R2 := Lib.hid r2
      have R3 := Lib.hid r3'
      have R4 := Lib.hid r4
      have R5 := Lib.hid r5
      have f0 : ∀ o : Obj, (wr.alloc o).cell? ⟨W.heap.size, 0, none⟩ = some (.int .i64 5) := fun o => ((x0.alloc o).cell 0).trans rfl
      clear hcall hrt x0 x1 hbr r1 r2 r3' r4 r5 hkq hcc hcell hWr g0 g1 g2 g3 hgm hkeep hxk
      generalize ((ks.take q).map newT).filter (keepT 5) = rs at *
      by_cases h2 : xk = 2
      · subst h2
        replace HC := Lib.hid (HC.out rfl)
        generalize newT t = tm at *
        go_wp2_with fail
        refine HC.out.mono ?_
        rintro e w4 ⟨yq, yA, yn, yc, rfl, h4, b4⟩
        rw [if_pos trivial] at HRT
        have HB4 : Hid (Below wr.heap.size wr w4) := Lib.hid (((Below.refl wr.heap.size wr).alloc (Nat.le_refl _) _).trans (b4.mono (by simp)))
        have hws : wr.heap.size + 1 ≤ w4.heap.size := by have := b4.size; simpa using this
        have H4 := Lib.hid (LsG.keeps _ w4 _ (fun b => wr.heap.size ≤ b) _ _ h4 (fun _ _ _ => rfl) (fun b hb _ => by simp at hb; omega))
        have HOW : Hid (w4.ownsRow 0 93 2 u3 rs.length css2.flatten) := Lib.hid (own_keep R1.out (fun b _ hb => HB4.out.block b hb))
        have HOK : Hid (∀ b, wr.heap.size ≤ b → W.heap.size + 2 ≤ b) := Lib.hid fun b hb => by omega
        clear h4 b4
        go_wp2_with (at_builtin; refine wpList_append_any _ rfl _ _ _ rfl 0 93 i0 (.agg #[.int .u8 0, .slice none 0 0]) 2 32 Tryz.underlying61 hi0 hz0 hz1 hz2 rfl (by decide) _ rs.length css2.flatten rfl (by exact World.ownsRow.alloc HOW.out _) _ _ 1 _ [.int .u8 yq, .slice yA yn yc] rfl (by exact reads_new2 (by simp)) (by simp [Value.oneCell']) (by simp only [maxLen]; omega) (by omega) (Nat.zero_le _) ?_; intro v1 W1 ho hg hp; obtain ⟨kr1, hg1⟩ := KRow.pushed LsG.keeps R2.out R1.out R3.out R4.out R5.out HB4.out H4.out rfl HOK.out ho hg hp; have KR1 := Lib.hid kr1; have HG1 := Lib.hid hg1; clear ho hg hp kr1 hg1)
        go_roundw
        case rel =>
          have hkr := R2.out
          refine ⟨q + 1, by omega, by go_num, Blk.grown X0.out HG1.out (fun e => by have := hkr _ e.symm; omega), Blk.grown X1.out HG1.out (fun e => by have := hkr _ e.symm; omega), ?_, below_grownBy HBR.out HBR.out.size HG1.out (fun b hb => by have := hkr b hb; omega), ?_⟩
          · rw [HRT.out]
            exact KR1.out
          · have := HG1.out.size
            omega
        case measure => simp [intOf]; omega
      · have e2 : (xk == 2) = false := by rw [beq_eq_false_iff_ne]; exact h2
        rw [if_neg h2, List.append_nil] at HRT
        clear HC
        go_wp2
        go_roundw
        case rel =>
          have hA : Below wr.heap.size wr (wr.alloc (.cells #[.int .i64 xk, .int .i64 xd, .slice xA xn xc, .slice xK xm xc'] 25)) := (Below.refl _ _).alloc (Nat.le_refl _) _
          refine ⟨q + 1, by omega, by go_num, X0.out.alloc _, X1.out.alloc _, ?_, HBR.out.trans (hA.mono HBR.out.size), by simp; omega⟩
          rw [HRT.out]
          exact KRow.keep LsG.keeps ⟨css2, R1.out, R2.out, R3.out, R4.out, R5.out⟩ (fun b _ hl => hA.block b hl) (fun b hb _ => hb)
        case measure => simp [intOf]; omega
    · obtain rfl : m = q := by omega
      rw [List.take_of_length_le (by rw [HEM.out]; exact Nat.le_refl _)] at kr
      have hml : ((ks.map newT).filter (keepT 5)).length ≤ 100000 := Nat.le_trans (List.length_filter_le _ _) (by rw [List.length_map]; omega)
      have hok : ∀ t ∈ (ks.map newT).filter (keepT 5), OkT t := fun t ht => by
        obtain ⟨u, hu, rfl⟩ := List.mem_map.1 (List.mem_filter.1 ht).1
        exact (ok_newT u (by have := sz_mem hu; omega)).2.2
      generalize (ks.map newT).filter (keepT 5) = ts at *
      obtain ⟨A1, n1, c1, rfl, hl1⟩ := row_shape kr
      have c0 := x1.cell 0
      have c1' := x1.cell 1
      have z0 := x1.frozen 0
      have z1 := x1.frozen 1
      have d1 := x0.cell 1
      simp at c0 c1' d1
      have X1 := Lib.hid x1
      have HBR := Lib.hid hbr
      have HOK := Lib.hid hok
      have HL1 := Lib.hid hl1
      have KR := Lib.hid kr
      by_cases h0 : n1 = 0
      · subst h0
        obtain rfl : ts = [] := List.eq_nil_of_length_eq_zero hl1
        have HT2 : Hid (T = .mk 5 (d % 4) [] []) := Lib.hid (by rw [← HPT.out]; unfold partsT; rw [if_pos rfl])
        clear HPT
        have hdim := dimOf_any d wr
        have hforce := MlForce_raw (ok := fun b => W.heap.size + 2 ≤ b) (A := none) (n := 0) (c := 0) (d % 4) q0 q1 0 wr (KRow.nil wr _) rfl (by simp) (by omega)
        generalize d % 4 = dq at *
        have HD := Lib.hid hdim
        have HF := Lib.hid hforce
        clear hdim hforce hok hl1 kr x1 hbr
        go_wp2_with fail
        refine HD.out.mono ?_
        rintro e w4 ⟨rfl, rfl⟩
        go_wp2_with fail
        refine HF.out.mono ?_
        rintro e w5 ⟨yA, yn, yc, yq, rfl, h5, b5⟩
        have x5 := X1.out.below b5 X1.out.lt
        have y0 := x5.frozen 0
        have y1 := x5.frozen 1
        have v0 := x5.cell 0
        have v1 := x5.cell 1
        simp at v0 v1
        have e0 : (w5.setCell ⟨W.heap.size + 1, 0, none⟩ (.slice yA yn yc)).cell? ⟨W.heap.size + 1, 0, none⟩ = some (.slice yA yn yc) := by simpa using (x5.set_ 0 (.slice yA yn yc)).cell 0
        have e1 : ((w5.setCell ⟨W.heap.size + 1, 0, none⟩ (.slice yA yn yc)).setCell ⟨W.heap.size + 1, 1, none⟩ (.int .u8 yq)).cell? ⟨W.heap.size + 1, 1, none⟩ = some (.int .u8 yq) := by simpa using ((x5.set_ 0 (.slice yA yn yc)).set_ 1 (.int .u8 yq)).cell 1
        have H5 := Lib.hid h5
        have B5 := Lib.hid b5
        clear h5 b5 x5
        go_wp2
        refine bodyPost_ret (by simp [results, Tryz.results41, go_sem, e0, e1]; try rfl) rfl ?_
        rw [HT2.out]
        refine ⟨yA, yn, yc, yq, rfl, MlG.keeps _ _ _ _ _ _ H5.out (fun b hb _ => ?_) (fun b hb _ => by omega), ?_⟩
        · have hne : b ≠ W.heap.size + 1 := by omega
          rw [Below.heap_setCell _ _ _ b hne, Below.heap_setCell _ _ _ b hne]
        · exact below_setCell' (below_setCell' (HBR.out.trans (B5.out.mono HBR.out.size)) (Nat.le_succ _) _) (Nat.le_succ _) _
      · have hne : ((n1 : Int) == 0) = false := by rw [beq_eq_false_iff_ne]; omega
        have hts : ts ≠ [] := fun e => by rw [e] at hl1; simp at hl1; omega
        have HT2 : Hid (T = .mk 5 (ctF ts) [] (ts.map (forceT (ctF ts)))) := Lib.hid (by rw [← HPT.out]; unfold partsT; rw [if_neg hts, forceT_mk, row_force_nil]; rfl)
        clear HPT
        have hnew := NewMultiLineString_G wr kr hl1 hok (by omega) (by omega)
        generalize Gm.mk 5 (ctF ts) [] (ts.map (forceT (ctF ts))) = T2 at *
        have HF := Lib.hid hnew
        clear hnew hok hl1 kr x1 hbr
        go_wp2_with fail
        refine HF.out.mono ?_
        rintro e w5 ⟨yA, yn, yc, yq, rfl, h5, b5⟩
        have x5 := X1.out.below b5 X1.out.lt
        have y0 := x5.frozen 0
        have y1 := x5.frozen 1
        have v0 := x5.cell 0
        have v1 := x5.cell 1
        simp at v0 v1
        have e0 : (w5.setCell ⟨W.heap.size + 1, 0, none⟩ (.slice yA yn yc)).cell? ⟨W.heap.size + 1, 0, none⟩ = some (.slice yA yn yc) := by simpa using (x5.set_ 0 (.slice yA yn yc)).cell 0
        have e1 : ((w5.setCell ⟨W.heap.size + 1, 0, none⟩ (.slice yA yn yc)).setCell ⟨W.heap.size + 1, 1, none⟩ (.int .u8 yq)).cell? ⟨W.heap.size + 1, 1, none⟩ = some (.int .u8 yq) := by simpa using ((x5.set_ 0 (.slice yA yn yc)).set_ 1 (.int .u8 yq)).cell 1
        have H5 := Lib.hid h5
        have B5 := Lib.hid b5
        clear h5 b5 x5
        go_wp2
        refine bodyPost_ret (by simp [results, Tryz.results41, go_sem, e0, e1]; try rfl) rfl ?_
        rw [HT2.out]
        refine ⟨yA, yn, yc, yq, rfl, MlG.keeps _ _ _ _ _ _ H5.out (fun b hb _ => ?_) (fun b hb _ => by omega), ?_⟩
        · have hne : b ≠ W.heap.size + 1 := by omega
          rw [Below.heap_setCell _ _ _ b hne, Below.heap_setCell _ _ _ b hne]
        · exact below_setCell' (below_setCell' (HBR.out.trans (B5.out.mono HBR.out.size)) (Nat.le_succ _) _) (Nat.le_succ _) _

end Go.Proofs.YtpbcfgehmalppaaGreatDoor
