/- The change of a sequence's type (printed by gen_seqforce.py). -/
import Derived.Test.YtpbcfgehmalppaaGreatDoorPgI
namespace Go.Proofs.YtpbcfgehmalppaaGreatDoor
open Go.RowKit

attribute [local go_sem] run_store_float

set_option maxHeartbeats 20000000 in
set_option maxRecDepth 100000 in
theorem SeqForce0 (q : Int) (q0 : 0 ≤ q) (q1 : q ≤ 3) (hQ : (q == 0) = false) {g n c : Nat} {ns : List Nat} (W : World) (hblk : Blk W g 45 (flV ns).toArray) (hl : ns.length = n) (hn0 : 0 < n) (hm : n % wd q = 0) (hn : n ≤ 1000000) (r : Nat) (hr : n / wd q = r) :
    Calls Tryz.prog 131 #[.agg #[.int .u8 q, .slice (some ⟨g, 0, none⟩) n c], .int .u8 0] W fun e w' => ∃ g', e = .returned (.agg #[.int .u8 0, .slice (some ⟨g', 0, none⟩) (2 * r) (2 * r)]) ∧ W.heap.size ≤ g' ∧ Blk w' g' 45 (flV (plsNums 0 (ptsN q ns r))).toArray ∧ Below W.heap.size W w' := by
  have hV : wd 0 = 2 := rfl
  have e2 : ((n : Int) == 0) = false := by rw [beq_eq_false_iff_ne]; omega
  have hdiv := Nat.div_add_mod n (wd q)
  have hwq := wd_pos' q
  have hrn : n / wd q ≤ n := Nat.div_le_self _ _
  have hmul : ∀ i, i < n / wd q → (i + 1) * wd q ≤ n := fun i hi => by
    have := Nat.mul_le_mul_right (wd q) (show i + 1 ≤ n / wd q from hi)
    rw [Nat.mul_comm (n / wd q)] at this
    omega
  have hget := fun (w : World) (hb : Blk w g 45 (flV ns).toArray) i (hi : (i + 1) * wd q ≤ n) => Get_any q q0 q1 g i n c ns w hb hl hi (by omega)
  have hlen := fun w => Length_any q q0 q1 (some ⟨g, 0, none⟩) n c (by omega) w
  have hdim := fun w => dimension_any 0 (by omega) (by omega) w
  rw [hV] at hdim
  rw [hr] at hlen hrn hmul
  have hfl : ∀ i, (flV (plsNums 0 (ptsN q ns i))).length = 2 * i := fun i => by rw [flV_length, plsNums_wd' 0 (by omega) (by omega), ptsN_length, hV, Nat.mul_comm]
  have HG := Lib.hid hget
  have HL := Lib.hid hlen
  have HM := Lib.hid hmul
  have HD := Lib.hid hdim
  have HBK := Lib.hid hblk
  have HFL := Lib.hid hfl
  clear hget hlen hmul hdim hblk hdiv hm hr hV hfl
  obtain ⟨i0, hi0, hz0, hz1, hz2⟩ := info_parts info_f64
  obtain ⟨N, hN⟩ : ∃ N : Nat, N = 2 * r := ⟨_, rfl⟩
  have hN1 : N ≤ 10000000 := by omega
  have hmk : ∀ w : World, (Instr.makeSlice 22 (.int .i64 (2 * (r : Int))) (.int .i64 (2 * (r : Int)))).run Tryz.prog w = .ok (.slice (some ⟨w.heap.size, 0, none⟩) N N) (w.alloc (.cells (madeCells #[.float .f64 0] N) 45)) := fun w => by
    have h := run_make_rowN (P := Tryz.prog) 22 45 i0 (.float .f64 0) Tryz.underlying22 hi0 hz0 .i64 .i64 N N (Nat.le_refl _) (by rw [hz2]; omega) (by omega) w
    rw [hz1, Nat.mul_one] at h
    rw [show (2 * (r : Int)) = ((N : Nat) : Int) by rw [hN]; omega]
    exact h
  go_enter Tryz.func131, Tryz.ntmps131
  go_wp2_with fail
  refine (HL.out _).mono ?_
  rintro e w1 ⟨rfl, h1⟩
  go_wp2_with fail
  refine (HD.out _).mono ?_
  rintro e w2 ⟨rfl, rfl⟩
  go_wp2_with fail
  rw [← hN]
  have hb2 : Below W.heap.size W w2 := ((((Below.refl W.heap.size W).alloc (Nat.le_refl _) _).alloc (by simp) _)).trans (h1.mono (by simp; omega))
  have hs2 : W.heap.size + 2 ≤ w2.heap.size := by have := h1.size; simpa using this
  have x0 := (((Blk.new W 78 #[.int .u8 q, .slice (some ⟨g, 0, none⟩) n c]).alloc (.cells #[.int .u8 0, .slice none 0 0] 78)).below h1 (by simp; omega)).alloc (.cells (madeCells #[.float .f64 0] N) 45)
  have x1 := ((Blk.new (W.alloc (.cells #[.int .u8 q, .slice (some ⟨g, 0, none⟩) n c] 78)) 78 #[.int .u8 0, .slice none 0 0]).below h1 (by simp)).alloc (.cells (madeCells #[.float .f64 0] N) 45)
  have x2 := Blk.new w2 45 (madeCells #[.float .f64 0] N)
  have hb3 := hb2.alloc (by omega) (.cells (madeCells #[.float .f64 0] N) 45)
  have hs3 : (w2.alloc (.cells (madeCells #[.float .f64 0] N) 45)).heap.size = w2.heap.size + 1 := World.size_alloc _ _
  have hmz : (madeCells #[Value.float .f64 0] N).size = N := by rw [madeCells_one]; simp
  rw [World.size_alloc] at x1
  generalize w2.alloc (.cells (madeCells #[.float .f64 0] N) 45) = w3 at *
  generalize w2.heap.size = gf at *
  have X0 := Lib.hid x0
  have X1 := Lib.hid x1
  have X2 := Lib.hid x2
  have HB3 := Lib.hid hb3
  have HMZ := Lib.hid hmz
  have HNN := Lib.hid hN
  clear x0 x1 x2 hb3 hmz hb2 h1 hmk hN
  go_loopw [8] (fun i wr => ∃ (k : Nat) (cs : Array Value), k ≤ r ∧ i = .int .i64 k ∧ Blk wr W.heap.size 78 #[.int .u8 q, .slice (some ⟨g, 0, none⟩) n c] ∧ Blk wr (W.heap.size + 1) 78 #[.int .u8 0, .slice none 0 0] ∧ Blk wr gf 45 cs ∧ cs.size = N ∧ (∀ j, j < 2 * k → cs[j]? = (flV (plsNums 0 (ptsN q ns k)))[j]?) ∧ Below W.heap.size W wr) (fun i _ => r - (intOf i).toNat)
  case atStart => exact ⟨0, _, Nat.zero_le _, rfl, X0.out, X1.out, X2.out, HMZ.out, fun j hj => absurd hj (by omega), HB3.out⟩
  case round =>
    obtain ⟨k, cs, hk, rfl, y0, y1, y2, hcs, hcj, hbr⟩ := hrel
    have hgl : gf < wr.heap.size := y2.lt
    by_cases hlt : k < r
    · have hgk := HG.out wr (HBK.out.below hbr HBK.out.lt) k (HM.out k hlt)
      have hpt : flV (plsNums 0 (ptsN q ns (k + 1))) = flV (plsNums 0 (ptsN q ns k)) ++ flV (plNums 0 (ptN q ns k)) := by rw [ptsN_succ, plsNums_snoc, flV_append]
      have hln := HFL.out k
      have hNk : 2 * k + 2 ≤ N := by have := HNN.out; omega
      generalize flV (plsNums 0 (ptsN q ns k)) = Ls at *
      generalize ptN q ns k = p at *
      obtain ⟨px, py, pz, pm⟩ := p
      have f0 := y0.cell 0
      have f1 := y0.cell 1
      simp at f0 f1
      have Y0 := Lib.hid y0
      have Y1 := Lib.hid y1
      have Y2 := Lib.hid y2
      have HPT := Lib.hid hpt
      have HCJ := Lib.hid hcj
      have HBR := Lib.hid hbr
      have HGK := Lib.hid hgk
      clear y0 y1 y2 hpt hcj hbr hgk
      go_wp2_with fail
      refine HGK.out.mono ?_
      rintro e w5 ⟨rfl, h5⟩
      have y2 := (Y2.out.below h5 hgl).alloc (.cells #[.float .f64 px, .float .f64 py, .float .f64 pz, .float .f64 pm, .int .u8 q] 50)
      have hs5 := h5.size
      have g0 := (y2.cell (2 * k)).trans (Array.getElem?_eq_getElem (by omega))
      have z0 := y2.frozen (2 * k)
      have g1 := (y2.cell (2 * k + 1)).trans (Array.getElem?_eq_getElem (by omega))
      have z1 := y2.frozen (2 * k + 1)
      go_wp2
      go_roundw
      case rel =>
        obtain ⟨l1, q10, s1⟩ := set_step hln HCJ.out (by omega) (.float .f64 px)
        obtain ⟨l2, q11, s2⟩ := set_step l1 s1 (by rw [q10]; omega) (.float .f64 py)
        have ew : flV (plNums 0 (px, py, pz, pm)) = [.float .f64 px, .float .f64 py] := rfl
        have hwb : Below W.heap.size W (w5.alloc (.cells #[.float .f64 px, .float .f64 py, .float .f64 pz, .float .f64 pm, .int .u8 q] 50)) := (HBR.out.trans (h5.mono HBR.out.size)).alloc (by have := HBR.out.size; omega) _
        have hga : W.heap.size ≤ gf := by omega
        refine ⟨k + 1, _, by omega, by go_num, ((((Y0.out.below h5 Y0.out.lt).alloc _).far (p := ⟨gf, 2 * k, none⟩) (by show _ ≠ gf; omega) (.float .f64 px)).far (p := ⟨gf, 2 * k + 1, none⟩) (by show _ ≠ gf; omega) (.float .f64 py)), ((((Y1.out.below h5 Y1.out.lt).alloc _).far (p := ⟨gf, 2 * k, none⟩) (by show _ ≠ gf; omega) (.float .f64 px)).far (p := ⟨gf, 2 * k + 1, none⟩) (by show _ ≠ gf; omega) (.float .f64 py)), (Blk.set_ (Blk.set_ y2 (2 * k) (.float .f64 px)) (2 * k + 1) (.float .f64 py)), by rw [q11, q10]; exact hcs, fun j hj => ?_, (below_setCell' (below_setCell' hwb hga _) hga _)⟩
        have h := s2 j (by omega)
        rw [HPT.out, ew]
        simp only [List.append_assoc, List.cons_append, List.nil_append] at h
        exact h
      case measure => simp [intOf]; omega
    · obtain rfl : r = k := by omega
      have hcs2 : cs = (flV (plsNums 0 (ptsN q ns r))).toArray := by
        apply Array.ext_getElem?
        intro j
        have e : (flV (plsNums 0 (ptsN q ns r))).toArray[j]? = (flV (plsNums 0 (ptsN q ns r)))[j]? := by simp
        rw [e]
        rcases Nat.lt_or_ge j (2 * r) with h | h
        · exact hcj j h
        · rw [Array.getElem?_eq_none (by rw [hcs, HNN.out]; exact h), List.getElem?_eq_none (by rw [HFL.out]; exact h)]
      subst hcs2
      have hnr := HNN.out
      have c0 := y1.cell 0
      have c1 := y1.cell 1
      have z0 := y1.frozen 0
      have z1 := y1.frozen 1
      simp at c0 c1
      have e0 : (wr.setCell ⟨W.heap.size + 1, 0, none⟩ (.int .u8 0)).cell? ⟨W.heap.size + 1, 0, none⟩ = some (.int .u8 0) := by simpa using (y1.set_ 0 (.int .u8 0)).cell 0
      have e1 : ((wr.setCell ⟨W.heap.size + 1, 0, none⟩ (.int .u8 0)).setCell ⟨W.heap.size + 1, 1, none⟩ (.slice (some ⟨gf, 0, none⟩) N N)).cell? ⟨W.heap.size + 1, 1, none⟩ = some (.slice (some ⟨gf, 0, none⟩) N N) := by simpa using ((y1.set_ 0 (.int .u8 0)).set_ 1 (.slice (some ⟨gf, 0, none⟩) N N)).cell 1
      have Y2 := Lib.hid y2
      have HBR := Lib.hid hbr
      have HNR := Lib.hid hnr
      clear y0 y1 y2 hbr hcj hcs hnr
      go_wp2
      refine bodyPost_ret (by simp [results, Tryz.results131, go_sem, e0, e1]; try rfl) rfl ?_
      refine ⟨gf, by rw [HNR.out], by omega, (Y2.out.far (by show gf ≠ W.heap.size + 1; omega) _).far (by show gf ≠ W.heap.size + 1; omega) _, ?_⟩
      exact below_setCell' (below_setCell' HBR.out (Nat.le_succ _) _) (Nat.le_succ _) _

set_option maxHeartbeats 20000000 in
set_option maxRecDepth 100000 in
theorem SeqForce1 (q : Int) (q0 : 0 ≤ q) (q1 : q ≤ 3) (hQ : (q == 1) = false) {g n c : Nat} {ns : List Nat} (W : World) (hblk : Blk W g 45 (flV ns).toArray) (hl : ns.length = n) (hn0 : 0 < n) (hm : n % wd q = 0) (hn : n ≤ 1000000) (r : Nat) (hr : n / wd q = r) :
    Calls Tryz.prog 131 #[.agg #[.int .u8 q, .slice (some ⟨g, 0, none⟩) n c], .int .u8 1] W fun e w' => ∃ g', e = .returned (.agg #[.int .u8 1, .slice (some ⟨g', 0, none⟩) (3 * r) (3 * r)]) ∧ W.heap.size ≤ g' ∧ Blk w' g' 45 (flV (plsNums 1 (ptsN q ns r))).toArray ∧ Below W.heap.size W w' := by
  have hV : wd 1 = 3 := rfl
  have e2 : ((n : Int) == 0) = false := by rw [beq_eq_false_iff_ne]; omega
  have hdiv := Nat.div_add_mod n (wd q)
  have hwq := wd_pos' q
  have hrn : n / wd q ≤ n := Nat.div_le_self _ _
  have hmul : ∀ i, i < n / wd q → (i + 1) * wd q ≤ n := fun i hi => by
    have := Nat.mul_le_mul_right (wd q) (show i + 1 ≤ n / wd q from hi)
    rw [Nat.mul_comm (n / wd q)] at this
    omega
  have hget := fun (w : World) (hb : Blk w g 45 (flV ns).toArray) i (hi : (i + 1) * wd q ≤ n) => Get_any q q0 q1 g i n c ns w hb hl hi (by omega)
  have hlen := fun w => Length_any q q0 q1 (some ⟨g, 0, none⟩) n c (by omega) w
  have hdim := fun w => dimension_any 1 (by omega) (by omega) w
  rw [hV] at hdim
  rw [hr] at hlen hrn hmul
  have hfl : ∀ i, (flV (plsNums 1 (ptsN q ns i))).length = 3 * i := fun i => by rw [flV_length, plsNums_wd' 1 (by omega) (by omega), ptsN_length, hV, Nat.mul_comm]
  have HG := Lib.hid hget
  have HL := Lib.hid hlen
  have HM := Lib.hid hmul
  have HD := Lib.hid hdim
  have HBK := Lib.hid hblk
  have HFL := Lib.hid hfl
  clear hget hlen hmul hdim hblk hdiv hm hr hV hfl
  obtain ⟨i0, hi0, hz0, hz1, hz2⟩ := info_parts info_f64
  obtain ⟨N, hN⟩ : ∃ N : Nat, N = 3 * r := ⟨_, rfl⟩
  have hN1 : N ≤ 10000000 := by omega
  have hmk : ∀ w : World, (Instr.makeSlice 22 (.int .i64 (3 * (r : Int))) (.int .i64 (3 * (r : Int)))).run Tryz.prog w = .ok (.slice (some ⟨w.heap.size, 0, none⟩) N N) (w.alloc (.cells (madeCells #[.float .f64 0] N) 45)) := fun w => by
    have h := run_make_rowN (P := Tryz.prog) 22 45 i0 (.float .f64 0) Tryz.underlying22 hi0 hz0 .i64 .i64 N N (Nat.le_refl _) (by rw [hz2]; omega) (by omega) w
    rw [hz1, Nat.mul_one] at h
    rw [show (3 * (r : Int)) = ((N : Nat) : Int) by rw [hN]; omega]
    exact h
  go_enter Tryz.func131, Tryz.ntmps131
  go_wp2_with fail
  refine (HL.out _).mono ?_
  rintro e w1 ⟨rfl, h1⟩
  go_wp2_with fail
  refine (HD.out _).mono ?_
  rintro e w2 ⟨rfl, rfl⟩
  go_wp2_with fail
  rw [← hN]
  have hb2 : Below W.heap.size W w2 := ((((Below.refl W.heap.size W).alloc (Nat.le_refl _) _).alloc (by simp) _)).trans (h1.mono (by simp; omega))
  have hs2 : W.heap.size + 2 ≤ w2.heap.size := by have := h1.size; simpa using this
  have x0 := (((Blk.new W 78 #[.int .u8 q, .slice (some ⟨g, 0, none⟩) n c]).alloc (.cells #[.int .u8 0, .slice none 0 0] 78)).below h1 (by simp; omega)).alloc (.cells (madeCells #[.float .f64 0] N) 45)
  have x1 := ((Blk.new (W.alloc (.cells #[.int .u8 q, .slice (some ⟨g, 0, none⟩) n c] 78)) 78 #[.int .u8 0, .slice none 0 0]).below h1 (by simp)).alloc (.cells (madeCells #[.float .f64 0] N) 45)
  have x2 := Blk.new w2 45 (madeCells #[.float .f64 0] N)
  have hb3 := hb2.alloc (by omega) (.cells (madeCells #[.float .f64 0] N) 45)
  have hs3 : (w2.alloc (.cells (madeCells #[.float .f64 0] N) 45)).heap.size = w2.heap.size + 1 := World.size_alloc _ _
  have hmz : (madeCells #[Value.float .f64 0] N).size = N := by rw [madeCells_one]; simp
  rw [World.size_alloc] at x1
  generalize w2.alloc (.cells (madeCells #[.float .f64 0] N) 45) = w3 at *
  generalize w2.heap.size = gf at *
  have X0 := Lib.hid x0
  have X1 := Lib.hid x1
  have X2 := Lib.hid x2
  have HB3 := Lib.hid hb3
  have HMZ := Lib.hid hmz
  have HNN := Lib.hid hN
  clear x0 x1 x2 hb3 hmz hb2 h1 hmk hN
  go_loopw [8] (fun i wr => ∃ (k : Nat) (cs : Array Value), k ≤ r ∧ i = .int .i64 k ∧ Blk wr W.heap.size 78 #[.int .u8 q, .slice (some ⟨g, 0, none⟩) n c] ∧ Blk wr (W.heap.size + 1) 78 #[.int .u8 0, .slice none 0 0] ∧ Blk wr gf 45 cs ∧ cs.size = N ∧ (∀ j, j < 3 * k → cs[j]? = (flV (plsNums 1 (ptsN q ns k)))[j]?) ∧ Below W.heap.size W wr) (fun i _ => r - (intOf i).toNat)
  case atStart => exact ⟨0, _, Nat.zero_le _, rfl, X0.out, X1.out, X2.out, HMZ.out, fun j hj => absurd hj (by omega), HB3.out⟩
  case round =>
    obtain ⟨k, cs, hk, rfl, y0, y1, y2, hcs, hcj, hbr⟩ := hrel
    have hgl : gf < wr.heap.size := y2.lt
    by_cases hlt : k < r
    · have hgk := HG.out wr (HBK.out.below hbr HBK.out.lt) k (HM.out k hlt)
      have hpt : flV (plsNums 1 (ptsN q ns (k + 1))) = flV (plsNums 1 (ptsN q ns k)) ++ flV (plNums 1 (ptN q ns k)) := by rw [ptsN_succ, plsNums_snoc, flV_append]
      have hln := HFL.out k
      have hNk : 3 * k + 3 ≤ N := by have := HNN.out; omega
      generalize flV (plsNums 1 (ptsN q ns k)) = Ls at *
      generalize ptN q ns k = p at *
      obtain ⟨px, py, pz, pm⟩ := p
      have f0 := y0.cell 0
      have f1 := y0.cell 1
      simp at f0 f1
      have Y0 := Lib.hid y0
      have Y1 := Lib.hid y1
      have Y2 := Lib.hid y2
      have HPT := Lib.hid hpt
      have HCJ := Lib.hid hcj
      have HBR := Lib.hid hbr
      have HGK := Lib.hid hgk
      clear y0 y1 y2 hpt hcj hbr hgk
      go_wp2_with fail
      refine HGK.out.mono ?_
      rintro e w5 ⟨rfl, h5⟩
      have y2 := (Y2.out.below h5 hgl).alloc (.cells #[.float .f64 px, .float .f64 py, .float .f64 pz, .float .f64 pm, .int .u8 q] 50)
      have hs5 := h5.size
      have g0 := (y2.cell (3 * k)).trans (Array.getElem?_eq_getElem (by omega))
      have z0 := y2.frozen (3 * k)
      have g1 := (y2.cell (3 * k + 1)).trans (Array.getElem?_eq_getElem (by omega))
      have z1 := y2.frozen (3 * k + 1)
      have g2 := (y2.cell (3 * k + 2)).trans (Array.getElem?_eq_getElem (by omega))
      have z2 := y2.frozen (3 * k + 2)
      go_wp2
      go_roundw
      case rel =>
        obtain ⟨l1, q10, s1⟩ := set_step hln HCJ.out (by omega) (.float .f64 px)
        obtain ⟨l2, q11, s2⟩ := set_step l1 s1 (by rw [q10]; omega) (.float .f64 py)
        obtain ⟨l3, q12, s3⟩ := set_step l2 s2 (by rw [q11, q10]; omega) (.float .f64 pz)
        have ew : flV (plNums 1 (px, py, pz, pm)) = [.float .f64 px, .float .f64 py, .float .f64 pz] := rfl
        have hwb : Below W.heap.size W (w5.alloc (.cells #[.float .f64 px, .float .f64 py, .float .f64 pz, .float .f64 pm, .int .u8 q] 50)) := (HBR.out.trans (h5.mono HBR.out.size)).alloc (by have := HBR.out.size; omega) _
        have hga : W.heap.size ≤ gf := by omega
        refine ⟨k + 1, _, by omega, by go_num, (((((Y0.out.below h5 Y0.out.lt).alloc _).far (p := ⟨gf, 3 * k, none⟩) (by show _ ≠ gf; omega) (.float .f64 px)).far (p := ⟨gf, 3 * k + 1, none⟩) (by show _ ≠ gf; omega) (.float .f64 py)).far (p := ⟨gf, 3 * k + 2, none⟩) (by show _ ≠ gf; omega) (.float .f64 pz)), (((((Y1.out.below h5 Y1.out.lt).alloc _).far (p := ⟨gf, 3 * k, none⟩) (by show _ ≠ gf; omega) (.float .f64 px)).far (p := ⟨gf, 3 * k + 1, none⟩) (by show _ ≠ gf; omega) (.float .f64 py)).far (p := ⟨gf, 3 * k + 2, none⟩) (by show _ ≠ gf; omega) (.float .f64 pz)), (Blk.set_ (Blk.set_ (Blk.set_ y2 (3 * k) (.float .f64 px)) (3 * k + 1) (.float .f64 py)) (3 * k + 2) (.float .f64 pz)), by rw [q12, q11, q10]; exact hcs, fun j hj => ?_, (below_setCell' (below_setCell' (below_setCell' hwb hga _) hga _) hga _)⟩
        have h := s3 j (by omega)
        rw [HPT.out, ew]
        simp only [List.append_assoc, List.cons_append, List.nil_append] at h
        exact h
      case measure => simp [intOf]; omega
    · obtain rfl : r = k := by omega
      have hcs2 : cs = (flV (plsNums 1 (ptsN q ns r))).toArray := by
        apply Array.ext_getElem?
        intro j
        have e : (flV (plsNums 1 (ptsN q ns r))).toArray[j]? = (flV (plsNums 1 (ptsN q ns r)))[j]? := by simp
        rw [e]
        rcases Nat.lt_or_ge j (3 * r) with h | h
        · exact hcj j h
        · rw [Array.getElem?_eq_none (by rw [hcs, HNN.out]; exact h), List.getElem?_eq_none (by rw [HFL.out]; exact h)]
      subst hcs2
      have hnr := HNN.out
      have c0 := y1.cell 0
      have c1 := y1.cell 1
      have z0 := y1.frozen 0
      have z1 := y1.frozen 1
      simp at c0 c1
      have e0 : (wr.setCell ⟨W.heap.size + 1, 0, none⟩ (.int .u8 1)).cell? ⟨W.heap.size + 1, 0, none⟩ = some (.int .u8 1) := by simpa using (y1.set_ 0 (.int .u8 1)).cell 0
      have e1 : ((wr.setCell ⟨W.heap.size + 1, 0, none⟩ (.int .u8 1)).setCell ⟨W.heap.size + 1, 1, none⟩ (.slice (some ⟨gf, 0, none⟩) N N)).cell? ⟨W.heap.size + 1, 1, none⟩ = some (.slice (some ⟨gf, 0, none⟩) N N) := by simpa using ((y1.set_ 0 (.int .u8 1)).set_ 1 (.slice (some ⟨gf, 0, none⟩) N N)).cell 1
      have Y2 := Lib.hid y2
      have HBR := Lib.hid hbr
      have HNR := Lib.hid hnr
      clear y0 y1 y2 hbr hcj hcs hnr
      go_wp2
      refine bodyPost_ret (by simp [results, Tryz.results131, go_sem, e0, e1]; try rfl) rfl ?_
      refine ⟨gf, by rw [HNR.out], by omega, (Y2.out.far (by show gf ≠ W.heap.size + 1; omega) _).far (by show gf ≠ W.heap.size + 1; omega) _, ?_⟩
      exact below_setCell' (below_setCell' HBR.out (Nat.le_succ _) _) (Nat.le_succ _) _

set_option maxHeartbeats 20000000 in
set_option maxRecDepth 100000 in
theorem SeqForce2 (q : Int) (q0 : 0 ≤ q) (q1 : q ≤ 3) (hQ : (q == 2) = false) {g n c : Nat} {ns : List Nat} (W : World) (hblk : Blk W g 45 (flV ns).toArray) (hl : ns.length = n) (hn0 : 0 < n) (hm : n % wd q = 0) (hn : n ≤ 1000000) (r : Nat) (hr : n / wd q = r) :
    Calls Tryz.prog 131 #[.agg #[.int .u8 q, .slice (some ⟨g, 0, none⟩) n c], .int .u8 2] W fun e w' => ∃ g', e = .returned (.agg #[.int .u8 2, .slice (some ⟨g', 0, none⟩) (3 * r) (3 * r)]) ∧ W.heap.size ≤ g' ∧ Blk w' g' 45 (flV (plsNums 2 (ptsN q ns r))).toArray ∧ Below W.heap.size W w' := by
  have hV : wd 2 = 3 := rfl
  have e2 : ((n : Int) == 0) = false := by rw [beq_eq_false_iff_ne]; omega
  have hdiv := Nat.div_add_mod n (wd q)
  have hwq := wd_pos' q
  have hrn : n / wd q ≤ n := Nat.div_le_self _ _
  have hmul : ∀ i, i < n / wd q → (i + 1) * wd q ≤ n := fun i hi => by
    have := Nat.mul_le_mul_right (wd q) (show i + 1 ≤ n / wd q from hi)
    rw [Nat.mul_comm (n / wd q)] at this
    omega
  have hget := fun (w : World) (hb : Blk w g 45 (flV ns).toArray) i (hi : (i + 1) * wd q ≤ n) => Get_any q q0 q1 g i n c ns w hb hl hi (by omega)
  have hlen := fun w => Length_any q q0 q1 (some ⟨g, 0, none⟩) n c (by omega) w
  have hdim := fun w => dimension_any 2 (by omega) (by omega) w
  rw [hV] at hdim
  rw [hr] at hlen hrn hmul
  have hfl : ∀ i, (flV (plsNums 2 (ptsN q ns i))).length = 3 * i := fun i => by rw [flV_length, plsNums_wd' 2 (by omega) (by omega), ptsN_length, hV, Nat.mul_comm]
  have HG := Lib.hid hget
  have HL := Lib.hid hlen
  have HM := Lib.hid hmul
  have HD := Lib.hid hdim
  have HBK := Lib.hid hblk
  have HFL := Lib.hid hfl
  clear hget hlen hmul hdim hblk hdiv hm hr hV hfl
  obtain ⟨i0, hi0, hz0, hz1, hz2⟩ := info_parts info_f64
  obtain ⟨N, hN⟩ : ∃ N : Nat, N = 3 * r := ⟨_, rfl⟩
  have hN1 : N ≤ 10000000 := by omega
  have hmk : ∀ w : World, (Instr.makeSlice 22 (.int .i64 (3 * (r : Int))) (.int .i64 (3 * (r : Int)))).run Tryz.prog w = .ok (.slice (some ⟨w.heap.size, 0, none⟩) N N) (w.alloc (.cells (madeCells #[.float .f64 0] N) 45)) := fun w => by
    have h := run_make_rowN (P := Tryz.prog) 22 45 i0 (.float .f64 0) Tryz.underlying22 hi0 hz0 .i64 .i64 N N (Nat.le_refl _) (by rw [hz2]; omega) (by omega) w
    rw [hz1, Nat.mul_one] at h
    rw [show (3 * (r : Int)) = ((N : Nat) : Int) by rw [hN]; omega]
    exact h
  go_enter Tryz.func131, Tryz.ntmps131
  go_wp2_with fail
  refine (HL.out _).mono ?_
  rintro e w1 ⟨rfl, h1⟩
  go_wp2_with fail
  refine (HD.out _).mono ?_
  rintro e w2 ⟨rfl, rfl⟩
  go_wp2_with fail
  rw [← hN]
  have hb2 : Below W.heap.size W w2 := ((((Below.refl W.heap.size W).alloc (Nat.le_refl _) _).alloc (by simp) _)).trans (h1.mono (by simp; omega))
  have hs2 : W.heap.size + 2 ≤ w2.heap.size := by have := h1.size; simpa using this
  have x0 := (((Blk.new W 78 #[.int .u8 q, .slice (some ⟨g, 0, none⟩) n c]).alloc (.cells #[.int .u8 0, .slice none 0 0] 78)).below h1 (by simp; omega)).alloc (.cells (madeCells #[.float .f64 0] N) 45)
  have x1 := ((Blk.new (W.alloc (.cells #[.int .u8 q, .slice (some ⟨g, 0, none⟩) n c] 78)) 78 #[.int .u8 0, .slice none 0 0]).below h1 (by simp)).alloc (.cells (madeCells #[.float .f64 0] N) 45)
  have x2 := Blk.new w2 45 (madeCells #[.float .f64 0] N)
  have hb3 := hb2.alloc (by omega) (.cells (madeCells #[.float .f64 0] N) 45)
  have hs3 : (w2.alloc (.cells (madeCells #[.float .f64 0] N) 45)).heap.size = w2.heap.size + 1 := World.size_alloc _ _
  have hmz : (madeCells #[Value.float .f64 0] N).size = N := by rw [madeCells_one]; simp
  rw [World.size_alloc] at x1
  generalize w2.alloc (.cells (madeCells #[.float .f64 0] N) 45) = w3 at *
  generalize w2.heap.size = gf at *
  have X0 := Lib.hid x0
  have X1 := Lib.hid x1
  have X2 := Lib.hid x2
  have HB3 := Lib.hid hb3
  have HMZ := Lib.hid hmz
  have HNN := Lib.hid hN
  clear x0 x1 x2 hb3 hmz hb2 h1 hmk hN
  go_loopw [8] (fun i wr => ∃ (k : Nat) (cs : Array Value), k ≤ r ∧ i = .int .i64 k ∧ Blk wr W.heap.size 78 #[.int .u8 q, .slice (some ⟨g, 0, none⟩) n c] ∧ Blk wr (W.heap.size + 1) 78 #[.int .u8 0, .slice none 0 0] ∧ Blk wr gf 45 cs ∧ cs.size = N ∧ (∀ j, j < 3 * k → cs[j]? = (flV (plsNums 2 (ptsN q ns k)))[j]?) ∧ Below W.heap.size W wr) (fun i _ => r - (intOf i).toNat)
  case atStart => exact ⟨0, _, Nat.zero_le _, rfl, X0.out, X1.out, X2.out, HMZ.out, fun j hj => absurd hj (by omega), HB3.out⟩
  case round =>
    obtain ⟨k, cs, hk, rfl, y0, y1, y2, hcs, hcj, hbr⟩ := hrel
    have hgl : gf < wr.heap.size := y2.lt
    by_cases hlt : k < r
    · have hgk := HG.out wr (HBK.out.below hbr HBK.out.lt) k (HM.out k hlt)
      have hpt : flV (plsNums 2 (ptsN q ns (k + 1))) = flV (plsNums 2 (ptsN q ns k)) ++ flV (plNums 2 (ptN q ns k)) := by rw [ptsN_succ, plsNums_snoc, flV_append]
      have hln := HFL.out k
      have hNk : 3 * k + 3 ≤ N := by have := HNN.out; omega
      generalize flV (plsNums 2 (ptsN q ns k)) = Ls at *
      generalize ptN q ns k = p at *
      obtain ⟨px, py, pz, pm⟩ := p
      have f0 := y0.cell 0
      have f1 := y0.cell 1
      simp at f0 f1
      have Y0 := Lib.hid y0
      have Y1 := Lib.hid y1
      have Y2 := Lib.hid y2
      have HPT := Lib.hid hpt
      have HCJ := Lib.hid hcj
      have HBR := Lib.hid hbr
      have HGK := Lib.hid hgk
      clear y0 y1 y2 hpt hcj hbr hgk
      go_wp2_with fail
      refine HGK.out.mono ?_
      rintro e w5 ⟨rfl, h5⟩
      have y2 := (Y2.out.below h5 hgl).alloc (.cells #[.float .f64 px, .float .f64 py, .float .f64 pz, .float .f64 pm, .int .u8 q] 50)
      have hs5 := h5.size
      have g0 := (y2.cell (3 * k)).trans (Array.getElem?_eq_getElem (by omega))
      have z0 := y2.frozen (3 * k)
      have g1 := (y2.cell (3 * k + 1)).trans (Array.getElem?_eq_getElem (by omega))
      have z1 := y2.frozen (3 * k + 1)
      have g2 := (y2.cell (3 * k + 2)).trans (Array.getElem?_eq_getElem (by omega))
      have z2 := y2.frozen (3 * k + 2)
      go_wp2
      go_roundw
      case rel =>
        obtain ⟨l1, q10, s1⟩ := set_step hln HCJ.out (by omega) (.float .f64 px)
        obtain ⟨l2, q11, s2⟩ := set_step l1 s1 (by rw [q10]; omega) (.float .f64 py)
        obtain ⟨l3, q12, s3⟩ := set_step l2 s2 (by rw [q11, q10]; omega) (.float .f64 pm)
        have ew : flV (plNums 2 (px, py, pz, pm)) = [.float .f64 px, .float .f64 py, .float .f64 pm] := rfl
        have hwb : Below W.heap.size W (w5.alloc (.cells #[.float .f64 px, .float .f64 py, .float .f64 pz, .float .f64 pm, .int .u8 q] 50)) := (HBR.out.trans (h5.mono HBR.out.size)).alloc (by have := HBR.out.size; omega) _
        have hga : W.heap.size ≤ gf := by omega
        refine ⟨k + 1, _, by omega, by go_num, (((((Y0.out.below h5 Y0.out.lt).alloc _).far (p := ⟨gf, 3 * k, none⟩) (by show _ ≠ gf; omega) (.float .f64 px)).far (p := ⟨gf, 3 * k + 1, none⟩) (by show _ ≠ gf; omega) (.float .f64 py)).far (p := ⟨gf, 3 * k + 2, none⟩) (by show _ ≠ gf; omega) (.float .f64 pm)), (((((Y1.out.below h5 Y1.out.lt).alloc _).far (p := ⟨gf, 3 * k, none⟩) (by show _ ≠ gf; omega) (.float .f64 px)).far (p := ⟨gf, 3 * k + 1, none⟩) (by show _ ≠ gf; omega) (.float .f64 py)).far (p := ⟨gf, 3 * k + 2, none⟩) (by show _ ≠ gf; omega) (.float .f64 pm)), (Blk.set_ (Blk.set_ (Blk.set_ y2 (3 * k) (.float .f64 px)) (3 * k + 1) (.float .f64 py)) (3 * k + 2) (.float .f64 pm)), by rw [q12, q11, q10]; exact hcs, fun j hj => ?_, (below_setCell' (below_setCell' (below_setCell' hwb hga _) hga _) hga _)⟩
        have h := s3 j (by omega)
        rw [HPT.out, ew]
        simp only [List.append_assoc, List.cons_append, List.nil_append] at h
        exact h
      case measure => simp [intOf]; omega
    · obtain rfl : r = k := by omega
      have hcs2 : cs = (flV (plsNums 2 (ptsN q ns r))).toArray := by
        apply Array.ext_getElem?
        intro j
        have e : (flV (plsNums 2 (ptsN q ns r))).toArray[j]? = (flV (plsNums 2 (ptsN q ns r)))[j]? := by simp
        rw [e]
        rcases Nat.lt_or_ge j (3 * r) with h | h
        · exact hcj j h
        · rw [Array.getElem?_eq_none (by rw [hcs, HNN.out]; exact h), List.getElem?_eq_none (by rw [HFL.out]; exact h)]
      subst hcs2
      have hnr := HNN.out
      have c0 := y1.cell 0
      have c1 := y1.cell 1
      have z0 := y1.frozen 0
      have z1 := y1.frozen 1
      simp at c0 c1
      have e0 : (wr.setCell ⟨W.heap.size + 1, 0, none⟩ (.int .u8 2)).cell? ⟨W.heap.size + 1, 0, none⟩ = some (.int .u8 2) := by simpa using (y1.set_ 0 (.int .u8 2)).cell 0
      have e1 : ((wr.setCell ⟨W.heap.size + 1, 0, none⟩ (.int .u8 2)).setCell ⟨W.heap.size + 1, 1, none⟩ (.slice (some ⟨gf, 0, none⟩) N N)).cell? ⟨W.heap.size + 1, 1, none⟩ = some (.slice (some ⟨gf, 0, none⟩) N N) := by simpa using ((y1.set_ 0 (.int .u8 2)).set_ 1 (.slice (some ⟨gf, 0, none⟩) N N)).cell 1
      have Y2 := Lib.hid y2
      have HBR := Lib.hid hbr
      have HNR := Lib.hid hnr
      clear y0 y1 y2 hbr hcj hcs hnr
      go_wp2
      refine bodyPost_ret (by simp [results, Tryz.results131, go_sem, e0, e1]; try rfl) rfl ?_
      refine ⟨gf, by rw [HNR.out], by omega, (Y2.out.far (by show gf ≠ W.heap.size + 1; omega) _).far (by show gf ≠ W.heap.size + 1; omega) _, ?_⟩
      exact below_setCell' (below_setCell' HBR.out (Nat.le_succ _) _) (Nat.le_succ _) _

set_option maxHeartbeats 20000000 in
set_option maxRecDepth 100000 in
theorem SeqForce3 (q : Int) (q0 : 0 ≤ q) (q1 : q ≤ 3) (hQ : (q == 3) = false) {g n c : Nat} {ns : List Nat} (W : World) (hblk : Blk W g 45 (flV ns).toArray) (hl : ns.length = n) (hn0 : 0 < n) (hm : n % wd q = 0) (hn : n ≤ 1000000) (r : Nat) (hr : n / wd q = r) :
    Calls Tryz.prog 131 #[.agg #[.int .u8 q, .slice (some ⟨g, 0, none⟩) n c], .int .u8 3] W fun e w' => ∃ g', e = .returned (.agg #[.int .u8 3, .slice (some ⟨g', 0, none⟩) (4 * r) (4 * r)]) ∧ W.heap.size ≤ g' ∧ Blk w' g' 45 (flV (plsNums 3 (ptsN q ns r))).toArray ∧ Below W.heap.size W w' := by
  have hV : wd 3 = 4 := rfl
  have e2 : ((n : Int) == 0) = false := by rw [beq_eq_false_iff_ne]; omega
  have hdiv := Nat.div_add_mod n (wd q)
  have hwq := wd_pos' q
  have hrn : n / wd q ≤ n := Nat.div_le_self _ _
  have hmul : ∀ i, i < n / wd q → (i + 1) * wd q ≤ n := fun i hi => by
    have := Nat.mul_le_mul_right (wd q) (show i + 1 ≤ n / wd q from hi)
    rw [Nat.mul_comm (n / wd q)] at this
    omega
  have hget := fun (w : World) (hb : Blk w g 45 (flV ns).toArray) i (hi : (i + 1) * wd q ≤ n) => Get_any q q0 q1 g i n c ns w hb hl hi (by omega)
  have hlen := fun w => Length_any q q0 q1 (some ⟨g, 0, none⟩) n c (by omega) w
  have hdim := fun w => dimension_any 3 (by omega) (by omega) w
  rw [hV] at hdim
  rw [hr] at hlen hrn hmul
  have hfl : ∀ i, (flV (plsNums 3 (ptsN q ns i))).length = 4 * i := fun i => by rw [flV_length, plsNums_wd' 3 (by omega) (by omega), ptsN_length, hV, Nat.mul_comm]
  have HG := Lib.hid hget
  have HL := Lib.hid hlen
  have HM := Lib.hid hmul
  have HD := Lib.hid hdim
  have HBK := Lib.hid hblk
  have HFL := Lib.hid hfl
  clear hget hlen hmul hdim hblk hdiv hm hr hV hfl
  obtain ⟨i0, hi0, hz0, hz1, hz2⟩ := info_parts info_f64
  obtain ⟨N, hN⟩ : ∃ N : Nat, N = 4 * r := ⟨_, rfl⟩
  have hN1 : N ≤ 10000000 := by omega
  have hmk : ∀ w : World, (Instr.makeSlice 22 (.int .i64 (4 * (r : Int))) (.int .i64 (4 * (r : Int)))).run Tryz.prog w = .ok (.slice (some ⟨w.heap.size, 0, none⟩) N N) (w.alloc (.cells (madeCells #[.float .f64 0] N) 45)) := fun w => by
    have h := run_make_rowN (P := Tryz.prog) 22 45 i0 (.float .f64 0) Tryz.underlying22 hi0 hz0 .i64 .i64 N N (Nat.le_refl _) (by rw [hz2]; omega) (by omega) w
    rw [hz1, Nat.mul_one] at h
    rw [show (4 * (r : Int)) = ((N : Nat) : Int) by rw [hN]; omega]
    exact h
  go_enter Tryz.func131, Tryz.ntmps131
  go_wp2_with fail
  refine (HL.out _).mono ?_
  rintro e w1 ⟨rfl, h1⟩
  go_wp2_with fail
  refine (HD.out _).mono ?_
  rintro e w2 ⟨rfl, rfl⟩
  go_wp2_with fail
  rw [← hN]
  have hb2 : Below W.heap.size W w2 := ((((Below.refl W.heap.size W).alloc (Nat.le_refl _) _).alloc (by simp) _)).trans (h1.mono (by simp; omega))
  have hs2 : W.heap.size + 2 ≤ w2.heap.size := by have := h1.size; simpa using this
  have x0 := (((Blk.new W 78 #[.int .u8 q, .slice (some ⟨g, 0, none⟩) n c]).alloc (.cells #[.int .u8 0, .slice none 0 0] 78)).below h1 (by simp; omega)).alloc (.cells (madeCells #[.float .f64 0] N) 45)
  have x1 := ((Blk.new (W.alloc (.cells #[.int .u8 q, .slice (some ⟨g, 0, none⟩) n c] 78)) 78 #[.int .u8 0, .slice none 0 0]).below h1 (by simp)).alloc (.cells (madeCells #[.float .f64 0] N) 45)
  have x2 := Blk.new w2 45 (madeCells #[.float .f64 0] N)
  have hb3 := hb2.alloc (by omega) (.cells (madeCells #[.float .f64 0] N) 45)
  have hs3 : (w2.alloc (.cells (madeCells #[.float .f64 0] N) 45)).heap.size = w2.heap.size + 1 := World.size_alloc _ _
  have hmz : (madeCells #[Value.float .f64 0] N).size = N := by rw [madeCells_one]; simp
  rw [World.size_alloc] at x1
  generalize w2.alloc (.cells (madeCells #[.float .f64 0] N) 45) = w3 at *
  generalize w2.heap.size = gf at *
  have X0 := Lib.hid x0
  have X1 := Lib.hid x1
  have X2 := Lib.hid x2
  have HB3 := Lib.hid hb3
  have HMZ := Lib.hid hmz
  have HNN := Lib.hid hN
  clear x0 x1 x2 hb3 hmz hb2 h1 hmk hN
  go_loopw [8] (fun i wr => ∃ (k : Nat) (cs : Array Value), k ≤ r ∧ i = .int .i64 k ∧ Blk wr W.heap.size 78 #[.int .u8 q, .slice (some ⟨g, 0, none⟩) n c] ∧ Blk wr (W.heap.size + 1) 78 #[.int .u8 0, .slice none 0 0] ∧ Blk wr gf 45 cs ∧ cs.size = N ∧ (∀ j, j < 4 * k → cs[j]? = (flV (plsNums 3 (ptsN q ns k)))[j]?) ∧ Below W.heap.size W wr) (fun i _ => r - (intOf i).toNat)
  case atStart => exact ⟨0, _, Nat.zero_le _, rfl, X0.out, X1.out, X2.out, HMZ.out, fun j hj => absurd hj (by omega), HB3.out⟩
  case round =>
    obtain ⟨k, cs, hk, rfl, y0, y1, y2, hcs, hcj, hbr⟩ := hrel
    have hgl : gf < wr.heap.size := y2.lt
    by_cases hlt : k < r
    · have hgk := HG.out wr (HBK.out.below hbr HBK.out.lt) k (HM.out k hlt)
      have hpt : flV (plsNums 3 (ptsN q ns (k + 1))) = flV (plsNums 3 (ptsN q ns k)) ++ flV (plNums 3 (ptN q ns k)) := by rw [ptsN_succ, plsNums_snoc, flV_append]
      have hln := HFL.out k
      have hNk : 4 * k + 4 ≤ N := by have := HNN.out; omega
      generalize flV (plsNums 3 (ptsN q ns k)) = Ls at *
      generalize ptN q ns k = p at *
      obtain ⟨px, py, pz, pm⟩ := p
      have f0 := y0.cell 0
      have f1 := y0.cell 1
      simp at f0 f1
      have Y0 := Lib.hid y0
      have Y1 := Lib.hid y1
      have Y2 := Lib.hid y2
      have HPT := Lib.hid hpt
      have HCJ := Lib.hid hcj
      have HBR := Lib.hid hbr
      have HGK := Lib.hid hgk
      clear y0 y1 y2 hpt hcj hbr hgk
      go_wp2_with fail
      refine HGK.out.mono ?_
      rintro e w5 ⟨rfl, h5⟩
      have y2 := (Y2.out.below h5 hgl).alloc (.cells #[.float .f64 px, .float .f64 py, .float .f64 pz, .float .f64 pm, .int .u8 q] 50)
      have hs5 := h5.size
      have g0 := (y2.cell (4 * k)).trans (Array.getElem?_eq_getElem (by omega))
      have z0 := y2.frozen (4 * k)
      have g1 := (y2.cell (4 * k + 1)).trans (Array.getElem?_eq_getElem (by omega))
      have z1 := y2.frozen (4 * k + 1)
      have g2 := (y2.cell (4 * k + 2)).trans (Array.getElem?_eq_getElem (by omega))
      have z2 := y2.frozen (4 * k + 2)
      have g3 := (y2.cell (4 * k + 3)).trans (Array.getElem?_eq_getElem (by omega))
      have z3 := y2.frozen (4 * k + 3)
      go_wp2
      go_roundw
      case rel =>
        obtain ⟨l1, q10, s1⟩ := set_step hln HCJ.out (by omega) (.float .f64 px)
        obtain ⟨l2, q11, s2⟩ := set_step l1 s1 (by rw [q10]; omega) (.float .f64 py)
        obtain ⟨l3, q12, s3⟩ := set_step l2 s2 (by rw [q11, q10]; omega) (.float .f64 pz)
        obtain ⟨l4, q13, s4⟩ := set_step l3 s3 (by rw [q12, q11, q10]; omega) (.float .f64 pm)
        have ew : flV (plNums 3 (px, py, pz, pm)) = [.float .f64 px, .float .f64 py, .float .f64 pz, .float .f64 pm] := rfl
        have hwb : Below W.heap.size W (w5.alloc (.cells #[.float .f64 px, .float .f64 py, .float .f64 pz, .float .f64 pm, .int .u8 q] 50)) := (HBR.out.trans (h5.mono HBR.out.size)).alloc (by have := HBR.out.size; omega) _
        have hga : W.heap.size ≤ gf := by omega
        refine ⟨k + 1, _, by omega, by go_num, ((((((Y0.out.below h5 Y0.out.lt).alloc _).far (p := ⟨gf, 4 * k, none⟩) (by show _ ≠ gf; omega) (.float .f64 px)).far (p := ⟨gf, 4 * k + 1, none⟩) (by show _ ≠ gf; omega) (.float .f64 py)).far (p := ⟨gf, 4 * k + 2, none⟩) (by show _ ≠ gf; omega) (.float .f64 pz)).far (p := ⟨gf, 4 * k + 3, none⟩) (by show _ ≠ gf; omega) (.float .f64 pm)), ((((((Y1.out.below h5 Y1.out.lt).alloc _).far (p := ⟨gf, 4 * k, none⟩) (by show _ ≠ gf; omega) (.float .f64 px)).far (p := ⟨gf, 4 * k + 1, none⟩) (by show _ ≠ gf; omega) (.float .f64 py)).far (p := ⟨gf, 4 * k + 2, none⟩) (by show _ ≠ gf; omega) (.float .f64 pz)).far (p := ⟨gf, 4 * k + 3, none⟩) (by show _ ≠ gf; omega) (.float .f64 pm)), (Blk.set_ (Blk.set_ (Blk.set_ (Blk.set_ y2 (4 * k) (.float .f64 px)) (4 * k + 1) (.float .f64 py)) (4 * k + 2) (.float .f64 pz)) (4 * k + 3) (.float .f64 pm)), by rw [q13, q12, q11, q10]; exact hcs, fun j hj => ?_, (below_setCell' (below_setCell' (below_setCell' (below_setCell' hwb hga _) hga _) hga _) hga _)⟩
        have h := s4 j (by omega)
        rw [HPT.out, ew]
        simp only [List.append_assoc, List.cons_append, List.nil_append] at h
        exact h
      case measure => simp [intOf]; omega
    · obtain rfl : r = k := by omega
      have hcs2 : cs = (flV (plsNums 3 (ptsN q ns r))).toArray := by
        apply Array.ext_getElem?
        intro j
        have e : (flV (plsNums 3 (ptsN q ns r))).toArray[j]? = (flV (plsNums 3 (ptsN q ns r)))[j]? := by simp
        rw [e]
        rcases Nat.lt_or_ge j (4 * r) with h | h
        · exact hcj j h
        · rw [Array.getElem?_eq_none (by rw [hcs, HNN.out]; exact h), List.getElem?_eq_none (by rw [HFL.out]; exact h)]
      subst hcs2
      have hnr := HNN.out
      have c0 := y1.cell 0
      have c1 := y1.cell 1
      have z0 := y1.frozen 0
      have z1 := y1.frozen 1
      simp at c0 c1
      have e0 : (wr.setCell ⟨W.heap.size + 1, 0, none⟩ (.int .u8 3)).cell? ⟨W.heap.size + 1, 0, none⟩ = some (.int .u8 3) := by simpa using (y1.set_ 0 (.int .u8 3)).cell 0
      have e1 : ((wr.setCell ⟨W.heap.size + 1, 0, none⟩ (.int .u8 3)).setCell ⟨W.heap.size + 1, 1, none⟩ (.slice (some ⟨gf, 0, none⟩) N N)).cell? ⟨W.heap.size + 1, 1, none⟩ = some (.slice (some ⟨gf, 0, none⟩) N N) := by simpa using ((y1.set_ 0 (.int .u8 3)).set_ 1 (.slice (some ⟨gf, 0, none⟩) N N)).cell 1
      have Y2 := Lib.hid y2
      have HBR := Lib.hid hbr
      have HNR := Lib.hid hnr
      clear y0 y1 y2 hbr hcj hcs hnr
      go_wp2
      refine bodyPost_ret (by simp [results, Tryz.results131, go_sem, e0, e1]; try rfl) rfl ?_
      refine ⟨gf, by rw [HNR.out], by omega, (Y2.out.far (by show gf ≠ W.heap.size + 1; omega) _).far (by show gf ≠ W.heap.size + 1; omega) _, ?_⟩
      exact below_setCell' (below_setCell' HBR.out (Nat.le_succ _) _) (Nat.le_succ _) _

end Go.Proofs.YtpbcfgehmalppaaGreatDoor
