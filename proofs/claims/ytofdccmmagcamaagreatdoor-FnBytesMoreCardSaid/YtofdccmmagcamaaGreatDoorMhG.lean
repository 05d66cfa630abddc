import Derived.Test.YtofdccmmagcamaaGreatDoorMhE
/- Sequences of places and their change of type. -/
set_option maxHeartbeats 8000000
set_option linter.unusedSimpArgs false
set_option linter.unusedVariables false
namespace Go.Proofs.YtofdccmmagcamaaGreatDoor
open Go.RowKit

attribute [local go_sem] run_store_float

/-- The cells cs read as a sequence of type q with the numbers ns, in a block of just these that answers ok. -/
def LsOn (w : World) (ok : Nat → Prop) (cs : List Value) (s : Int × List Nat) : Prop :=
  ∃ (A : Option Addr) (n c : Nat), cs = [.int .u8 s.1, .slice A n c] ∧ 0 ≤ s.1 ∧ s.1 ≤ 3 ∧ s.2.length = n ∧ n % wd s.1 = 0 ∧ (∀ b ∈ s.2, b < 18446744073709551616) ∧ (0 < n → ∃ g, A = some ⟨g, 0, none⟩ ∧ ok g ∧ Blk w g 73 (flV s.2).toArray)
theorem LsOn.keeps : Keeps LsOn := by
  rintro w w' ok ok' cs ⟨q, ns⟩ ⟨A, n, c, rfl, h0, h1, h2, h3, h4, h5⟩ hk ho
  refine ⟨A, n, c, rfl, h0, h1, h2, h3, h4, fun hp => ?_⟩
  obtain ⟨g, e, hg, hb⟩ := h5 hp
  exact ⟨g, e, ho g hg hb.lt, (hk g hg hb.lt).trans hb⟩

theorem wd_pos' (q : Int) : 2 ≤ wd q := by unfold wd; omega

/-- The numbers under another type. -/
def forceS (Q q : Int) (ns : List Nat) : List Nat := plsNums Q (ptsN q ns (ns.length / wd q))

theorem plNums_ptN (q : Int) (q0 : 0 ≤ q) (q1 : q ≤ 3) (ns : List Nat) (i : Nat) (hi : (i + 1) * wd q ≤ ns.length) : ns.take ((i + 1) * wd q) = ns.take (i * wd q) ++ plNums q (ptN q ns i) := by
  have h : ∀ j, j < ns.length → ns.take (j + 1) = ns.take j ++ [ns.getD j 0] := fun j hj => by
    rw [take_snoc' ns j hj, List.getD_eq_getElem?_getD, List.getElem?_eq_getElem hj]
    rfl
  rw [Nat.succ_mul] at hi ⊢
  rcases wd_cases q q0 q1 with ⟨rfl, e⟩ | ⟨rfl, e⟩ | ⟨rfl, e⟩ | ⟨rfl, e⟩ <;> rw [e] at hi ⊢ <;> unfold ptN plNums <;> rw [e]
  · rw [show i * 2 + 2 = i * 2 + 1 + 1 by omega, h _ (by omega), h _ (by omega)]
    simp
  · rw [show i * 3 + 3 = i * 3 + 1 + 1 + 1 by omega, h _ (by omega), h _ (by omega), h _ (by omega)]
    simp
  · rw [show i * 3 + 3 = i * 3 + 1 + 1 + 1 by omega, h _ (by omega), h _ (by omega), h _ (by omega)]
    simp
  · rw [show i * 4 + 4 = i * 4 + 1 + 1 + 1 + 1 by omega, h _ (by omega), h _ (by omega), h _ (by omega), h _ (by omega)]
    simp
theorem plsNums_take (q : Int) (q0 : 0 ≤ q) (q1 : q ≤ 3) (ns : List Nat) : ∀ r, r * wd q ≤ ns.length → plsNums q (ptsN q ns r) = ns.take (r * wd q)
  | 0, _ => by simp [ptsN, plsNums]
  | r + 1, h => by
    rw [ptsN_succ, plsNums_snoc, plsNums_take q q0 q1 ns r (by rw [Nat.succ_mul] at h; omega), plNums_ptN q q0 q1 ns r h]
theorem forceS_same (q : Int) (q0 : 0 ≤ q) (q1 : q ≤ 3) (ns : List Nat) (h : ns.length % wd q = 0) : forceS q q ns = ns := by
  have e := Nat.div_add_mod ns.length (wd q)
  rw [h, Nat.add_zero, Nat.mul_comm] at e
  unfold forceS
  rw [plsNums_take q q0 q1 ns _ (by omega), e, List.take_length]

theorem set_step {cs : Array Value} {L : List Value} {k : Nat} (hL : L.length = k) (h : ∀ j, j < k → cs[j]? = L[j]?) (hk : k < cs.size) (a : Value) : (L ++ [a]).length = k + 1 ∧ (cs.setIfInBounds k a).size = cs.size ∧ ∀ j, j < k + 1 → (cs.setIfInBounds k a)[j]? = (L ++ [a])[j]? := by
  refine ⟨by rw [List.length_append, hL]; rfl, by simp, fun j hj => ?_⟩
  by_cases e : j = k
  · subst e
    rw [List.getElem?_append_right (by omega), hL, Nat.sub_self, Array.getElem?_setIfInBounds_self_of_lt hk]
    rfl
  · rw [List.getElem?_append_left (by omega), Array.getElem?_setIfInBounds_ne (fun h => e h.symm)]
    exact h j (by omega)

theorem plNums_wd' (dim : Int) (d0 : 0 ≤ dim) (d1 : dim ≤ 3) (p : Pl) : (plNums dim p).length = wd dim := by
  have h : dim = 0 ∨ dim = 1 ∨ dim = 2 ∨ dim = 3 := by omega
  rcases h with rfl | rfl | rfl | rfl <;> rfl
theorem plsNums_wd' (dim : Int) (d0 : 0 ≤ dim) (d1 : dim ≤ 3) (ps : List Pl) : (plsNums dim ps).length = ps.length * wd dim := by
  induction ps with
  | nil => simp [plsNums]
  | cons p ps ih =>
    have e : plsNums dim (p :: ps) = plNums dim p ++ plsNums dim ps := by simp [plsNums]
    rw [e, List.length_append, ih, plNums_wd' dim d0 d1, List.length_cons, Nat.succ_mul]
    omega

theorem ptN_lt' (q : Int) (ns : List Nat) (i : Nat) (h : ∀ b ∈ ns, b < 18446744073709551616) : (ptN q ns i).1 < 18446744073709551616 ∧ (ptN q ns i).2.1 < 18446744073709551616 ∧ (ptN q ns i).2.2.1 < 18446744073709551616 ∧ (ptN q ns i).2.2.2 < 18446744073709551616 := by
  have k : ∀ j, ns.getD j 0 < 18446744073709551616 := fun j => by
    rw [List.getD_eq_getElem?_getD]
    rcases Nat.lt_or_ge j ns.length with hj | hj
    · rw [List.getElem?_eq_getElem hj]; exact h _ (List.getElem_mem hj)
    · rw [List.getElem?_eq_none hj]; decide
  unfold ptN
  refine ⟨k _, k _, ?_, ?_⟩
  · show (if _ then _ else _) < _
    split
    · exact k _
    · decide
  · show (if _ then _ else _) < _
    split
    · exact k _
    · decide
theorem plsNums_lt' (dim q : Int) (ns : List Nat) (r : Nat) (h : ∀ b ∈ ns, b < 18446744073709551616) : ∀ b ∈ plsNums dim (ptsN q ns r), b < 18446744073709551616 := by
  intro b hb
  unfold plsNums ptsN at hb
  obtain ⟨p, hp, hb⟩ := List.mem_flatMap.1 hb
  obtain ⟨i, _, rfl⟩ := List.mem_map.1 hp
  obtain ⟨h1, h2, h3, h4⟩ := ptN_lt' q ns i h
  unfold plNums at hb
  simp only [List.mem_append, List.mem_cons, List.not_mem_nil, or_false] at hb
  rcases hb with (rfl | rfl) | hb | hb
  · exact h1
  · exact h2
  · split at hb <;> simp at hb; subst hb; exact h3
  · split at hb <;> simp at hb; subst hb; exact h4

end Go.Proofs.YtofdccmmagcamaaGreatDoor

/- The change of a sequence's type (printed by gen_seqforce.py). -/
set_option maxHeartbeats 8000000
set_option linter.unusedSimpArgs false
set_option linter.unusedVariables false
namespace Go.Proofs.YtofdccmmagcamaaGreatDoor
open Go.RowKit

attribute [local go_sem] run_store_float

set_option maxRecDepth 100000 in
theorem SeqForce0 (q : Int) (q0 : 0 ≤ q) (q1 : q ≤ 3) (hQ : (q == 0) = false) {g n c : Nat} {ns : List Nat} (W : World) (hblk : Blk W g 73 (flV ns).toArray) (hl : ns.length = n) (hn0 : 0 < n) (hm : n % wd q = 0) (hn : n ≤ 1000000) (r : Nat) (hr : n / wd q = r) :
    Calls Tryz.prog 168 #[.agg #[.int .u8 q, .slice (some ⟨g, 0, none⟩) n c], .int .u8 0] W fun e w' => ∃ g', e = .returned (.agg #[.int .u8 0, .slice (some ⟨g', 0, none⟩) (2 * r) (2 * r)]) ∧ W.heap.size ≤ g' ∧ Blk w' g' 73 (flV (plsNums 0 (ptsN q ns r))).toArray ∧ Below W.heap.size W w' := by
  have hV : wd 0 = 2 := rfl
  have e2 : ((n : Int) == 0) = false := by rw [beq_eq_false_iff_ne]; omega
  have hdiv := Nat.div_add_mod n (wd q)
  have hwq := wd_pos' q
  have hrn : n / wd q ≤ n := Nat.div_le_self _ _
  have hmul : ∀ i, i < n / wd q → (i + 1) * wd q ≤ n := fun i hi => by
    have := Nat.mul_le_mul_right (wd q) (show i + 1 ≤ n / wd q from hi)
    rw [Nat.mul_comm (n / wd q)] at this
    omega
  have hget := fun (w : World) (hb : Blk w g 73 (flV ns).toArray) i (hi : (i + 1) * wd q ≤ n) => Get_any q q0 q1 g i n c ns w hb hl hi (by omega)
  have hlen := fun w => Length_any q q0 q1 (some ⟨g, 0, none⟩) n c (by omega) w
  have hdim := fun w => dimension_any 0 (by omega) (by omega) w
  rw [hV] at hdim
  rw [hr] at hlen hrn hmul
  have hfl : ∀ i, (flV (plsNums 0 (ptsN q ns i))).length = 2 * i := fun i => by rw [flV_length, plsNums_wd' 0 (by omega) (by omega), ptsN_length, hV, Nat.mul_comm]
  have HG := Hd hget
  have HL := Hd hlen
  have HM := Hd hmul
  have HD := Hd hdim
  have HBK := Hd hblk
  have HFL := Hd hfl
  clear hget hlen hmul hdim hblk hdiv hm hr hV hfl
  obtain ⟨i0, hi0, hz0, hz1, hz2⟩ := info_parts info_f64
  obtain ⟨N, hN⟩ : ∃ N : Nat, N = 2 * r := ⟨_, rfl⟩
  have hN1 : N ≤ 10000000 := by omega
  have hmk : ∀ w : World, (Instr.makeSlice 22 (.int .i64 (2 * (r : Int))) (.int .i64 (2 * (r : Int)))).run Tryz.prog w = .ok (.slice (some ⟨w.heap.size, 0, none⟩) N N) (w.alloc (.cells (madeCells #[.float .f64 0] N) 73)) := fun w => by
    have h := run_make_rowN (P := Tryz.prog) 22 73 i0 (.float .f64 0) Tryz.underlying22 hi0 hz0 .i64 .i64 N N (Nat.le_refl _) (by rw [hz2]; omega) (by omega) w
    rw [hz1, Nat.mul_one] at h
    rw [show (2 * (r : Int)) = ((N : Nat) : Int) by rw [hN]; omega]
    exact h
  go_enter Tryz.func168, Tryz.ntmps168
  go_wp2_with fail
  refine (HL.out _).mono ?_
  rintro e w1 ⟨rfl, h1⟩
  go_wp2_with fail
  refine (HD.out _).mono ?_
  rintro e w2 ⟨rfl, rfl⟩
  go_wp2_with fail
  rw [← hN]
  have hb2 : Below W.heap.size W w2 := ((((Below.refl W.heap.size W).alloc (Nat.le_refl _) _).alloc (by simp) _)).trans (h1.mono (by simp; omega))
  have hs2 : W.heap.size + 2 ≤ w2.heap.size := by have := h1.size; simpa using this
  have x0 := (((Blk.new W 87 #[.int .u8 q, .slice (some ⟨g, 0, none⟩) n c]).alloc (.cells #[.int .u8 0, .slice none 0 0] 87)).below h1 (by simp; omega)).alloc (.cells (madeCells #[.float .f64 0] N) 73)
  have x1 := ((Blk.new (W.alloc (.cells #[.int .u8 q, .slice (some ⟨g, 0, none⟩) n c] 87)) 87 #[.int .u8 0, .slice none 0 0]).below h1 (by simp)).alloc (.cells (madeCells #[.float .f64 0] N) 73)
  have x2 := Blk.new w2 73 (madeCells #[.float .f64 0] N)
  have hb3 := hb2.alloc (by omega) (.cells (madeCells #[.float .f64 0] N) 73)
  have hs3 : (w2.alloc (.cells (madeCells #[.float .f64 0] N) 73)).heap.size = w2.heap.size + 1 := World.size_alloc _ _
  have hmz : (madeCells #[Value.float .f64 0] N).size = N := by rw [madeCells_one]; simp
  rw [World.size_alloc] at x1
  generalize w2.alloc (.cells (madeCells #[.float .f64 0] N) 73) = w3 at *
  generalize w2.heap.size = gf at *
  have X0 := Hd x0
  have X1 := Hd x1
  have X2 := Hd x2
  have HB3 := Hd hb3
  have HMZ := Hd hmz
  have HNN := Hd hN
  clear x0 x1 x2 hb3 hmz hb2 h1 hmk hN
  go_loopw [8] (fun i wr => ∃ (k : Nat) (cs : Array Value), k ≤ r ∧ i = .int .i64 k ∧ Blk wr W.heap.size 87 #[.int .u8 q, .slice (some ⟨g, 0, none⟩) n c] ∧ Blk wr (W.heap.size + 1) 87 #[.int .u8 0, .slice none 0 0] ∧ Blk wr gf 73 cs ∧ cs.size = N ∧ (∀ j, j < 2 * k → cs[j]? = (flV (plsNums 0 (ptsN q ns k)))[j]?) ∧ Below W.heap.size W wr) (fun i _ => r - (intOf i).toNat)
  case atStart => exact ⟨0, _, Nat.zero_le _, rfl, X0.out, X1.out, X2.out, HMZ.out, fun j hj => absurd hj (by omega), HB3.out⟩
  case round =>
    obtain ⟨k, cs, hk, rfl, y0, y1, y2, hcs, hcj, hbr⟩ := hrel
    have hgl : gf < wr.heap.size := y2.lt
    by_cases hlt : k < r
    · have hgk := HG.out wr (HBK.out.below hbr HBK.out.lt) k (HM.out k hlt)
      have hpt : flV (plsNums 0 (ptsN q ns (k + 1))) = flV (plsNums 0 (ptsN q ns k)) ++ flV (plNums 0 (ptN q ns k)) := by rw [ptsN_succ, plsNums_snoc, flV_append]
      have hln := HFL.out k
      have hNk : 2 * k + 2 ≤ N := by have := HNN.out; omega
      generalize flV (plsNums 0 (ptsN q ns k)) = Ls at *
      generalize ptN q ns k = p at *
      obtain ⟨px, py, pz, pm⟩ := p
      have f0 := y0.cell 0
      have f1 := y0.cell 1
      simp at f0 f1
      have Y0 := Hd y0
      have Y1 := Hd y1
      have Y2 := Hd y2
      have HPT := Hd hpt
      have HCJ := Hd hcj
      have HBR := Hd hbr
      have HGK := Hd hgk
      clear y0 y1 y2 hpt hcj hbr hgk
      go_wp2_with fail
      refine HGK.out.mono ?_
      rintro e w5 ⟨rfl, h5⟩
      have y2 := (Y2.out.below h5 hgl).alloc (.cells #[.float .f64 px, .float .f64 py, .float .f64 pz, .float .f64 pm, .int .u8 q] 107)
      have hs5 := h5.size
      have g0 := (y2.cell (2 * k)).trans (Array.getElem?_eq_getElem (by omega))
      have z0 := y2.frozen (2 * k)
      have g1 := (y2.cell (2 * k + 1)).trans (Array.getElem?_eq_getElem (by omega))
      have z1 := y2.frozen (2 * k + 1)
      go_wp2
      go_roundw
      case rel =>
        obtain ⟨l1, q10, s1⟩ := set_step hln HCJ.out (by omega) (.float .f64 px)
        obtain ⟨l2, q11, s2⟩ := set_step l1 s1 (by rw [q10]; omega) (.float .f64 py)
        have ew : flV (plNums 0 (px, py, pz, pm)) = [.float .f64 px, .float .f64 py] := rfl
        have hwb : Below W.heap.size W (w5.alloc (.cells #[.float .f64 px, .float .f64 py, .float .f64 pz, .float .f64 pm, .int .u8 q] 107)) := (HBR.out.trans (h5.mono HBR.out.size)).alloc (by have := HBR.out.size; omega) _
        have hga : W.heap.size ≤ gf := by omega
        refine ⟨k + 1, _, by omega, by go_num, ((((Y0.out.below h5 Y0.out.lt).alloc _).far (p := ⟨gf, 2 * k, none⟩) (by show _ ≠ gf; omega) (.float .f64 px)).far (p := ⟨gf, 2 * k + 1, none⟩) (by show _ ≠ gf; omega) (.float .f64 py)), ((((Y1.out.below h5 Y1.out.lt).alloc _).far (p := ⟨gf, 2 * k, none⟩) (by show _ ≠ gf; omega) (.float .f64 px)).far (p := ⟨gf, 2 * k + 1, none⟩) (by show _ ≠ gf; omega) (.float .f64 py)), (Blk.set_ (Blk.set_ y2 (2 * k) (.float .f64 px)) (2 * k + 1) (.float .f64 py)), by rw [q11, q10]; exact hcs, fun j hj => ?_, (below_setCell' (below_setCell' hwb hga _) hga _)⟩
        have h := s2 j (by omega)
        rw [HPT.out, ew]
        simp only [List.append_assoc, List.cons_append, List.nil_append] at h
        exact h
      case measure => simp [intOf]; omega
    · obtain rfl : r = k := by omega
      have hcs2 : cs = (flV (plsNums 0 (ptsN q ns r))).toArray := by
        apply Array.ext_getElem?
        intro j
        have e : (flV (plsNums 0 (ptsN q ns r))).toArray[j]? = (flV (plsNums 0 (ptsN q ns r)))[j]? := by simp
        rw [e]
        rcases Nat.lt_or_ge j (2 * r) with h | h
        · exact hcj j h
        · rw [Array.getElem?_eq_none (by rw [hcs, HNN.out]; exact h), List.getElem?_eq_none (by rw [HFL.out]; exact h)]
      subst hcs2
      have hnr := HNN.out
      have c0 := y1.cell 0
      have c1 := y1.cell 1
      have z0 := y1.frozen 0
      have z1 := y1.frozen 1
      simp at c0 c1
      have e0 : (wr.setCell ⟨W.heap.size + 1, 0, none⟩ (.int .u8 0)).cell? ⟨W.heap.size + 1, 0, none⟩ = some (.int .u8 0) := by simpa using (y1.set_ 0 (.int .u8 0)).cell 0
      have e1 : ((wr.setCell ⟨W.heap.size + 1, 0, none⟩ (.int .u8 0)).setCell ⟨W.heap.size + 1, 1, none⟩ (.slice (some ⟨gf, 0, none⟩) N N)).cell? ⟨W.heap.size + 1, 1, none⟩ = some (.slice (some ⟨gf, 0, none⟩) N N) := by simpa using ((y1.set_ 0 (.int .u8 0)).set_ 1 (.slice (some ⟨gf, 0, none⟩) N N)).cell 1
      have Y2 := Hd y2
      have HBR := Hd hbr
      have HNR := Hd hnr
      clear y0 y1 y2 hbr hcj hcs hnr
      go_wp2
      refine bodyPost_ret (by simp [results, Tryz.results168, go_sem, e0, e1]; try rfl) rfl ?_
      refine ⟨gf, by rw [HNR.out], by omega, (Y2.out.far (by show gf ≠ W.heap.size + 1; omega) _).far (by show gf ≠ W.heap.size + 1; omega) _, ?_⟩
      exact below_setCell' (below_setCell' HBR.out (Nat.le_succ _) _) (Nat.le_succ _) _

set_option maxRecDepth 100000 in
theorem SeqForce1 (q : Int) (q0 : 0 ≤ q) (q1 : q ≤ 3) (hQ : (q == 1) = false) {g n c : Nat} {ns : List Nat} (W : World) (hblk : Blk W g 73 (flV ns).toArray) (hl : ns.length = n) (hn0 : 0 < n) (hm : n % wd q = 0) (hn : n ≤ 1000000) (r : Nat) (hr : n / wd q = r) :
    Calls Tryz.prog 168 #[.agg #[.int .u8 q, .slice (some ⟨g, 0, none⟩) n c], .int .u8 1] W fun e w' => ∃ g', e = .returned (.agg #[.int .u8 1, .slice (some ⟨g', 0, none⟩) (3 * r) (3 * r)]) ∧ W.heap.size ≤ g' ∧ Blk w' g' 73 (flV (plsNums 1 (ptsN q ns r))).toArray ∧ Below W.heap.size W w' := by
  have hV : wd 1 = 3 := rfl
  have e2 : ((n : Int) == 0) = false := by rw [beq_eq_false_iff_ne]; omega
  have hdiv := Nat.div_add_mod n (wd q)
  have hwq := wd_pos' q
  have hrn : n / wd q ≤ n := Nat.div_le_self _ _
  have hmul : ∀ i, i < n / wd q → (i + 1) * wd q ≤ n := fun i hi => by
    have := Nat.mul_le_mul_right (wd q) (show i + 1 ≤ n / wd q from hi)
    rw [Nat.mul_comm (n / wd q)] at this
    omega
  have hget := fun (w : World) (hb : Blk w g 73 (flV ns).toArray) i (hi : (i + 1) * wd q ≤ n) => Get_any q q0 q1 g i n c ns w hb hl hi (by omega)
  have hlen := fun w => Length_any q q0 q1 (some ⟨g, 0, none⟩) n c (by omega) w
  have hdim := fun w => dimension_any 1 (by omega) (by omega) w
  rw [hV] at hdim
  rw [hr] at hlen hrn hmul
  have hfl : ∀ i, (flV (plsNums 1 (ptsN q ns i))).length = 3 * i := fun i => by rw [flV_length, plsNums_wd' 1 (by omega) (by omega), ptsN_length, hV, Nat.mul_comm]
  have HG := Hd hget
  have HL := Hd hlen
  have HM := Hd hmul
  have HD := Hd hdim
  have HBK := Hd hblk
  have HFL := Hd hfl
  clear hget hlen hmul hdim hblk hdiv hm hr hV hfl
  obtain ⟨i0, hi0, hz0, hz1, hz2⟩ := info_parts info_f64
  obtain ⟨N, hN⟩ : ∃ N : Nat, N = 3 * r := ⟨_, rfl⟩
  have hN1 : N ≤ 10000000 := by omega
  have hmk : ∀ w : World, (Instr.makeSlice 22 (.int .i64 (3 * (r : Int))) (.int .i64 (3 * (r : Int)))).run Tryz.prog w = .ok (.slice (some ⟨w.heap.size, 0, none⟩) N N) (w.alloc (.cells (madeCells #[.float .f64 0] N) 73)) := fun w => by
    have h := run_make_rowN (P := Tryz.prog) 22 73 i0 (.float .f64 0) Tryz.underlying22 hi0 hz0 .i64 .i64 N N (Nat.le_refl _) (by rw [hz2]; omega) (by omega) w
    rw [hz1, Nat.mul_one] at h
    rw [show (3 * (r : Int)) = ((N : Nat) : Int) by rw [hN]; omega]
    exact h
  go_enter Tryz.func168, Tryz.ntmps168
  go_wp2_with fail
  refine (HL.out _).mono ?_
  rintro e w1 ⟨rfl, h1⟩
  go_wp2_with fail
  refine (HD.out _).mono ?_
  rintro e w2 ⟨rfl, rfl⟩
  go_wp2_with fail
  rw [← hN]
  have hb2 : Below W.heap.size W w2 := ((((Below.refl W.heap.size W).alloc (Nat.le_refl _) _).alloc (by simp) _)).trans (h1.mono (by simp; omega))
  have hs2 : W.heap.size + 2 ≤ w2.heap.size := by have := h1.size; simpa using this
  have x0 := (((Blk.new W 87 #[.int .u8 q, .slice (some ⟨g, 0, none⟩) n c]).alloc (.cells #[.int .u8 0, .slice none 0 0] 87)).below h1 (by simp; omega)).alloc (.cells (madeCells #[.float .f64 0] N) 73)
  have x1 := ((Blk.new (W.alloc (.cells #[.int .u8 q, .slice (some ⟨g, 0, none⟩) n c] 87)) 87 #[.int .u8 0, .slice none 0 0]).below h1 (by simp)).alloc (.cells (madeCells #[.float .f64 0] N) 73)
  have x2 := Blk.new w2 73 (madeCells #[.float .f64 0] N)
  have hb3 := hb2.alloc (by omega) (.cells (madeCells #[.float .f64 0] N) 73)
  have hs3 : (w2.alloc (.cells (madeCells #[.float .f64 0] N) 73)).heap.size = w2.heap.size + 1 := World.size_alloc _ _
  have hmz : (madeCells #[Value.float .f64 0] N).size = N := by rw [madeCells_one]; simp
  rw [World.size_alloc] at x1
  generalize w2.alloc (.cells (madeCells #[.float .f64 0] N) 73) = w3 at *
  generalize w2.heap.size = gf at *
  have X0 := Hd x0
  have X1 := Hd x1
  have X2 := Hd x2
  have HB3 := Hd hb3
  have HMZ := Hd hmz
  have HNN := Hd hN
  clear x0 x1 x2 hb3 hmz hb2 h1 hmk hN
  go_loopw [8] (fun i wr => ∃ (k : Nat) (cs : Array Value), k ≤ r ∧ i = .int .i64 k ∧ Blk wr W.heap.size 87 #[.int .u8 q, .slice (some ⟨g, 0, none⟩) n c] ∧ Blk wr (W.heap.size + 1) 87 #[.int .u8 0, .slice none 0 0] ∧ Blk wr gf 73 cs ∧ cs.size = N ∧ (∀ j, j < 3 * k → cs[j]? = (flV (plsNums 1 (ptsN q ns k)))[j]?) ∧ Below W.heap.size W wr) (fun i _ => r - (intOf i).toNat)
  case atStart => exact ⟨0, _, Nat.zero_le _, rfl, X0.out, X1.out, X2.out, HMZ.out, fun j hj => absurd hj (by omega), HB3.out⟩
  case round =>
    obtain ⟨k, cs, hk, rfl, y0, y1, y2, hcs, hcj, hbr⟩ := hrel
    have hgl : gf < wr.heap.size := y2.lt
    by_cases hlt : k < r
    · have hgk := HG.out wr (HBK.out.below hbr HBK.out.lt) k (HM.out k hlt)
      have hpt : flV (plsNums 1 (ptsN q ns (k + 1))) = flV (plsNums 1 (ptsN q ns k)) ++ flV (plNums 1 (ptN q ns k)) := by rw [ptsN_succ, plsNums_snoc, flV_append]
      have hln := HFL.out k
      have hNk : 3 * k + 3 ≤ N := by have := HNN.out; omega
      generalize flV (plsNums 1 (ptsN q ns k)) = Ls at *
      generalize ptN q ns k = p at *
      obtain ⟨px, py, pz, pm⟩ := p
      have f0 := y0.cell 0
      have f1 := y0.cell 1
      simp at f0 f1
      have Y0 := Hd y0
      have Y1 := Hd y1
      have Y2 := Hd y2
      have HPT := Hd hpt
      have HCJ := Hd hcj
      have HBR := Hd hbr
      have HGK := Hd hgk
      clear y0 y1 y2 hpt hcj hbr hgk
      go_wp2_with fail
      refine HGK.out.mono ?_
      rintro e w5 ⟨rfl, h5⟩
      have y2 := (Y2.out.below h5 hgl).alloc (.cells #[.float .f64 px, .float .f64 py, .float .f64 pz, .float .f64 pm, .int .u8 q] 107)
      have hs5 := h5.size
      have g0 := (y2.cell (3 * k)).trans (Array.getElem?_eq_getElem (by omega))
      have z0 := y2.frozen (3 * k)
      have g1 := (y2.cell (3 * k + 1)).trans (Array.getElem?_eq_getElem (by omega))
      have z1 := y2.frozen (3 * k + 1)
      have g2 := (y2.cell (3 * k + 2)).trans (Array.getElem?_eq_getElem (by omega))
      have z2 := y2.frozen (3 * k + 2)
      go_wp2
      go_roundw
      case rel =>
        obtain ⟨l1, q10, s1⟩ := set_step hln HCJ.out (by omega) (.float .f64 px)
        obtain ⟨l2, q11, s2⟩ := set_step l1 s1 (by rw [q10]; omega) (.float .f64 py)
        obtain ⟨l3, q12, s3⟩ := set_step l2 s2 (by rw [q11, q10]; omega) (.float .f64 pz)
        have ew : flV (plNums 1 (px, py, pz, pm)) = [.float .f64 px, .float .f64 py, .float .f64 pz] := rfl
        have hwb : Below W.heap.size W (w5.alloc (.cells #[.float .f64 px, .float .f64 py, .float .f64 pz, .float .f64 pm, .int .u8 q] 107)) := (HBR.out.trans (h5.mono HBR.out.size)).alloc (by have := HBR.out.size; omega) _
        have hga : W.heap.size ≤ gf := by omega
        refine ⟨k + 1, _, by omega, by go_num, (((((Y0.out.below h5 Y0.out.lt).alloc _).far (p := ⟨gf, 3 * k, none⟩) (by show _ ≠ gf; omega) (.float .f64 px)).far (p := ⟨gf, 3 * k + 1, none⟩) (by show _ ≠ gf; omega) (.float .f64 py)).far (p := ⟨gf, 3 * k + 2, none⟩) (by show _ ≠ gf; omega) (.float .f64 pz)), (((((Y1.out.below h5 Y1.out.lt).alloc _).far (p := ⟨gf, 3 * k, none⟩) (by show _ ≠ gf; omega) (.float .f64 px)).far (p := ⟨gf, 3 * k + 1, none⟩) (by show _ ≠ gf; omega) (.float .f64 py)).far (p := ⟨gf, 3 * k + 2, none⟩) (by show _ ≠ gf; omega) (.float .f64 pz)), (Blk.set_ (Blk.set_ (Blk.set_ y2 (3 * k) (.float .f64 px)) (3 * k + 1) (.float .f64 py)) (3 * k + 2) (.float .f64 pz)), by rw [q12, q11, q10]; exact hcs, fun j hj => ?_, (below_setCell' (below_setCell' (below_setCell' hwb hga _) hga _) hga _)⟩
        have h := s3 j (by omega)
        rw [HPT.out, ew]
        simp only [List.append_assoc, List.cons_append, List.nil_append] at h
        exact h
      case measure => simp [intOf]; omega
    · obtain rfl : r = k := by omega
      have hcs2 : cs = (flV (plsNums 1 (ptsN q ns r))).toArray := by
        apply Array.ext_getElem?
        intro j
        have e : (flV (plsNums 1 (ptsN q ns r))).toArray[j]? = (flV (plsNums 1 (ptsN q ns r)))[j]? := by simp
        rw [e]
        rcases Nat.lt_or_ge j (3 * r) with h | h
        · exact hcj j h
        · rw [Array.getElem?_eq_none (by rw [hcs, HNN.out]; exact h), List.getElem?_eq_none (by rw [HFL.out]; exact h)]
      subst hcs2
      have hnr := HNN.out
      have c0 := y1.cell 0
      have c1 := y1.cell 1
      have z0 := y1.frozen 0
      have z1 := y1.frozen 1
      simp at c0 c1
      have e0 : (wr.setCell ⟨W.heap.size + 1, 0, none⟩ (.int .u8 1)).cell? ⟨W.heap.size + 1, 0, none⟩ = some (.int .u8 1) := by simpa using (y1.set_ 0 (.int .u8 1)).cell 0
      have e1 : ((wr.setCell ⟨W.heap.size + 1, 0, none⟩ (.int .u8 1)).setCell ⟨W.heap.size + 1, 1, none⟩ (.slice (some ⟨gf, 0, none⟩) N N)).cell? ⟨W.heap.size + 1, 1, none⟩ = some (.slice (some ⟨gf, 0, none⟩) N N) := by simpa using ((y1.set_ 0 (.int .u8 1)).set_ 1 (.slice (some ⟨gf, 0, none⟩) N N)).cell 1
      have Y2 := Hd y2
      have HBR := Hd hbr
      have HNR := Hd hnr
      clear y0 y1 y2 hbr hcj hcs hnr
      go_wp2
      refine bodyPost_ret (by simp [results, Tryz.results168, go_sem, e0, e1]; try rfl) rfl ?_
      refine ⟨gf, by rw [HNR.out], by omega, (Y2.out.far (by show gf ≠ W.heap.size + 1; omega) _).far (by show gf ≠ W.heap.size + 1; omega) _, ?_⟩
      exact below_setCell' (below_setCell' HBR.out (Nat.le_succ _) _) (Nat.le_succ _) _

set_option maxRecDepth 100000 in
theorem SeqForce2 (q : Int) (q0 : 0 ≤ q) (q1 : q ≤ 3) (hQ : (q == 2) = false) {g n c : Nat} {ns : List Nat} (W : World) (hblk : Blk W g 73 (flV ns).toArray) (hl : ns.length = n) (hn0 : 0 < n) (hm : n % wd q = 0) (hn : n ≤ 1000000) (r : Nat) (hr : n / wd q = r) :
    Calls Tryz.prog 168 #[.agg #[.int .u8 q, .slice (some ⟨g, 0, none⟩) n c], .int .u8 2] W fun e w' => ∃ g', e = .returned (.agg #[.int .u8 2, .slice (some ⟨g', 0, none⟩) (3 * r) (3 * r)]) ∧ W.heap.size ≤ g' ∧ Blk w' g' 73 (flV (plsNums 2 (ptsN q ns r))).toArray ∧ Below W.heap.size W w' := by
  have hV : wd 2 = 3 := rfl
  have e2 : ((n : Int) == 0) = false := by rw [beq_eq_false_iff_ne]; omega
  have hdiv := Nat.div_add_mod n (wd q)
  have hwq := wd_pos' q
  have hrn : n / wd q ≤ n := Nat.div_le_self _ _
  have hmul : ∀ i, i < n / wd q → (i + 1) * wd q ≤ n := fun i hi => by
    have := Nat.mul_le_mul_right (wd q) (show i + 1 ≤ n / wd q from hi)
    rw [Nat.mul_comm (n / wd q)] at this
    omega
  have hget := fun (w : World) (hb : Blk w g 73 (flV ns).toArray) i (hi : (i + 1) * wd q ≤ n) => Get_any q q0 q1 g i n c ns w hb hl hi (by omega)
  have hlen := fun w => Length_any q q0 q1 (some ⟨g, 0, none⟩) n c (by omega) w
  have hdim := fun w => dimension_any 2 (by omega) (by omega) w
  rw [hV] at hdim
  rw [hr] at hlen hrn hmul
  have hfl : ∀ i, (flV (plsNums 2 (ptsN q ns i))).length = 3 * i := fun i => by rw [flV_length, plsNums_wd' 2 (by omega) (by omega), ptsN_length, hV, Nat.mul_comm]
  have HG := Hd hget
  have HL := Hd hlen
  have HM := Hd hmul
  have HD := Hd hdim
  have HBK := Hd hblk
  have HFL := Hd hfl
  clear hget hlen hmul hdim hblk hdiv hm hr hV hfl
  obtain ⟨i0, hi0, hz0, hz1, hz2⟩ := info_parts info_f64
  obtain ⟨N, hN⟩ : ∃ N : Nat, N = 3 * r := ⟨_, rfl⟩
  have hN1 : N ≤ 10000000 := by omega
  have hmk : ∀ w : World, (Instr.makeSlice 22 (.int .i64 (3 * (r : Int))) (.int .i64 (3 * (r : Int)))).run Tryz.prog w = .ok (.slice (some ⟨w.heap.size, 0, none⟩) N N) (w.alloc (.cells (madeCells #[.float .f64 0] N) 73)) := fun w => by
    have h := run_make_rowN (P := Tryz.prog) 22 73 i0 (.float .f64 0) Tryz.underlying22 hi0 hz0 .i64 .i64 N N (Nat.le_refl _) (by rw [hz2]; omega) (by omega) w
    rw [hz1, Nat.mul_one] at h
    rw [show (3 * (r : Int)) = ((N : Nat) : Int) by rw [hN]; omega]
    exact h
  go_enter Tryz.func168, Tryz.ntmps168
  go_wp2_with fail
  refine (HL.out _).mono ?_
  rintro e w1 ⟨rfl, h1⟩
  go_wp2_with fail
  refine (HD.out _).mono ?_
  rintro e w2 ⟨rfl, rfl⟩
  go_wp2_with fail
  rw [← hN]
  have hb2 : Below W.heap.size W w2 := ((((Below.refl W.heap.size W).alloc (Nat.le_refl _) _).alloc (by simp) _)).trans (h1.mono (by simp; omega))
  have hs2 : W.heap.size + 2 ≤ w2.heap.size := by have := h1.size; simpa using this
  have x0 := (((Blk.new W 87 #[.int .u8 q, .slice (some ⟨g, 0, none⟩) n c]).alloc (.cells #[.int .u8 0, .slice none 0 0] 87)).below h1 (by simp; omega)).alloc (.cells (madeCells #[.float .f64 0] N) 73)
  have x1 := ((Blk.new (W.alloc (.cells #[.int .u8 q, .slice (some ⟨g, 0, none⟩) n c] 87)) 87 #[.int .u8 0, .slice none 0 0]).below h1 (by simp)).alloc (.cells (madeCells #[.float .f64 0] N) 73)
  have x2 := Blk.new w2 73 (madeCells #[.float .f64 0] N)
  have hb3 := hb2.alloc (by omega) (.cells (madeCells #[.float .f64 0] N) 73)
  have hs3 : (w2.alloc (.cells (madeCells #[.float .f64 0] N) 73)).heap.size = w2.heap.size + 1 := World.size_alloc _ _
  have hmz : (madeCells #[Value.float .f64 0] N).size = N := by rw [madeCells_one]; simp
  rw [World.size_alloc] at x1
  generalize w2.alloc (.cells (madeCells #[.float .f64 0] N) 73) = w3 at *
  generalize w2.heap.size = gf at *
  have X0 := Hd x0
  have X1 := Hd x1
  have X2 := Hd x2
  have HB3 := Hd hb3
  have HMZ := Hd hmz
  have HNN := Hd hN
  clear x0 x1 x2 hb3 hmz hb2 h1 hmk hN
  go_loopw [8] (fun i wr => ∃ (k : Nat) (cs : Array Value), k ≤ r ∧ i = .int .i64 k ∧ Blk wr W.heap.size 87 #[.int .u8 q, .slice (some ⟨g, 0, none⟩) n c] ∧ Blk wr (W.heap.size + 1) 87 #[.int .u8 0, .slice none 0 0] ∧ Blk wr gf 73 cs ∧ cs.size = N ∧ (∀ j, j < 3 * k → cs[j]? = (flV (plsNums 2 (ptsN q ns k)))[j]?) ∧ Below W.heap.size W wr) (fun i _ => r - (intOf i).toNat)
  case atStart => exact ⟨0, _, Nat.zero_le _, rfl, X0.out, X1.out, X2.out, HMZ.out, fun j hj => absurd hj (by omega), HB3.out⟩
  case round =>
    obtain ⟨k, cs, hk, rfl, y0, y1, y2, hcs, hcj, hbr⟩ := hrel
    have hgl : gf < wr.heap.size := y2.lt
    by_cases hlt : k < r
    · have hgk := HG.out wr (HBK.out.below hbr HBK.out.lt) k (HM.out k hlt)
      have hpt : flV (plsNums 2 (ptsN q ns (k + 1))) = flV (plsNums 2 (ptsN q ns k)) ++ flV (plNums 2 (ptN q ns k)) := by rw [ptsN_succ, plsNums_snoc, flV_append]
      have hln := HFL.out k
      have hNk : 3 * k + 3 ≤ N := by have := HNN.out; omega
      generalize flV (plsNums 2 (ptsN q ns k)) = Ls at *
      generalize ptN q ns k = p at *
      obtain ⟨px, py, pz, pm⟩ := p
      have f0 := y0.cell 0
      have f1 := y0.cell 1
      simp at f0 f1
      have Y0 := Hd y0
      have Y1 := Hd y1
      have Y2 := Hd y2
      have HPT := Hd hpt
      have HCJ := Hd hcj
      have HBR := Hd hbr
      have HGK := Hd hgk
      clear y0 y1 y2 hpt hcj hbr hgk
      go_wp2_with fail
      refine HGK.out.mono ?_
      rintro e w5 ⟨rfl, h5⟩
      have y2 := (Y2.out.below h5 hgl).alloc (.cells #[.float .f64 px, .float .f64 py, .float .f64 pz, .float .f64 pm, .int .u8 q] 107)
      have hs5 := h5.size
      have g0 := (y2.cell (3 * k)).trans (Array.getElem?_eq_getElem (by omega))
      have z0 := y2.frozen (3 * k)
      have g1 := (y2.cell (3 * k + 1)).trans (Array.getElem?_eq_getElem (by omega))
      have z1 := y2.frozen (3 * k + 1)
      have g2 := (y2.cell (3 * k + 2)).trans (Array.getElem?_eq_getElem (by omega))
      have z2 := y2.frozen (3 * k + 2)
      go_wp2
      go_roundw
      case rel =>
        obtain ⟨l1, q10, s1⟩ := set_step hln HCJ.out (by omega) (.float .f64 px)
        obtain ⟨l2, q11, s2⟩ := set_step l1 s1 (by rw [q10]; omega) (.float .f64 py)
        obtain ⟨l3, q12, s3⟩ := set_step l2 s2 (by rw [q11, q10]; omega) (.float .f64 pm)
        have ew : flV (plNums 2 (px, py, pz, pm)) = [.float .f64 px, .float .f64 py, .float .f64 pm] := rfl
        have hwb : Below W.heap.size W (w5.alloc (.cells #[.float .f64 px, .float .f64 py, .float .f64 pz, .float .f64 pm, .int .u8 q] 107)) := (HBR.out.trans (h5.mono HBR.out.size)).alloc (by have := HBR.out.size; omega) _
        have hga : W.heap.size ≤ gf := by omega
        refine ⟨k + 1, _, by omega, by go_num, (((((Y0.out.below h5 Y0.out.lt).alloc _).far (p := ⟨gf, 3 * k, none⟩) (by show _ ≠ gf; omega) (.float .f64 px)).far (p := ⟨gf, 3 * k + 1, none⟩) (by show _ ≠ gf; omega) (.float .f64 py)).far (p := ⟨gf, 3 * k + 2, none⟩) (by show _ ≠ gf; omega) (.float .f64 pm)), (((((Y1.out.below h5 Y1.out.lt).alloc _).far (p := ⟨gf, 3 * k, none⟩) (by show _ ≠ gf; omega) (.float .f64 px)).far (p := ⟨gf, 3 * k + 1, none⟩) (by show _ ≠ gf; omega) (.float .f64 py)).far (p := ⟨gf, 3 * k + 2, none⟩) (by show _ ≠ gf; omega) (.float .f64 pm)), (Blk.set_ (Blk.set_ (Blk.set_ y2 (3 * k) (.float .f64 px)) (3 * k + 1) (.float .f64 py)) (3 * k + 2) (.float .f64 pm)), by rw [q12, q11, q10]; exact hcs, fun j hj => ?_, (below_setCell' (below_setCell' (below_setCell' hwb hga _) hga _) hga _)⟩
        have h := s3 j (by omega)
        rw [HPT.out, ew]
        simp only [List.append_assoc, List.cons_append, List.nil_append] at h
        exact h
      case measure => simp [intOf]; omega
    · obtain rfl : r = k := by omega
      have hcs2 : cs = (flV (plsNums 2 (ptsN q ns r))).toArray := by
        apply Array.ext_getElem?
        intro j
        have e : (flV (plsNums 2 (ptsN q ns r))).toArray[j]? = (flV (plsNums 2 (ptsN q ns r)))[j]? := by simp
        rw [e]
        rcases Nat.lt_or_ge j (3 * r) with h | h
        · exact hcj j h
        · rw [Array.getElem?_eq_none (by rw [hcs, HNN.out]; exact h), List.getElem?_eq_none (by rw [HFL.out]; exact h)]
      subst hcs2
      have hnr := HNN.out
      have c0 := y1.cell 0
      have c1 := y1.cell 1
      have z0 := y1.frozen 0
      have z1 := y1.frozen 1
      simp at c0 c1
      have e0 : (wr.setCell ⟨W.heap.size + 1, 0, none⟩ (.int .u8 2)).cell? ⟨W.heap.size + 1, 0, none⟩ = some (.int .u8 2) := by simpa using (y1.set_ 0 (.int .u8 2)).cell 0
      have e1 : ((wr.setCell ⟨W.heap.size + 1, 0, none⟩ (.int .u8 2)).setCell ⟨W.heap.size + 1, 1, none⟩ (.slice (some ⟨gf, 0, none⟩) N N)).cell? ⟨W.heap.size + 1, 1, none⟩ = some (.slice (some ⟨gf, 0, none⟩) N N) := by simpa using ((y1.set_ 0 (.int .u8 2)).set_ 1 (.slice (some ⟨gf, 0, none⟩) N N)).cell 1
      have Y2 := Hd y2
      have HBR := Hd hbr
      have HNR := Hd hnr
      clear y0 y1 y2 hbr hcj hcs hnr
      go_wp2
      refine bodyPost_ret (by simp [results, Tryz.results168, go_sem, e0, e1]; try rfl) rfl ?_
      refine ⟨gf, by rw [HNR.out], by omega, (Y2.out.far (by show gf ≠ W.heap.size + 1; omega) _).far (by show gf ≠ W.heap.size + 1; omega) _, ?_⟩
      exact below_setCell' (below_setCell' HBR.out (Nat.le_succ _) _) (Nat.le_succ _) _

set_option maxRecDepth 100000 in
theorem SeqForce3 (q : Int) (q0 : 0 ≤ q) (q1 : q ≤ 3) (hQ : (q == 3) = false) {g n c : Nat} {ns : List Nat} (W : World) (hblk : Blk W g 73 (flV ns).toArray) (hl : ns.length = n) (hn0 : 0 < n) (hm : n % wd q = 0) (hn : n ≤ 1000000) (r : Nat) (hr : n / wd q = r) :
    Calls Tryz.prog 168 #[.agg #[.int .u8 q, .slice (some ⟨g, 0, none⟩) n c], .int .u8 3] W fun e w' => ∃ g', e = .returned (.agg #[.int .u8 3, .slice (some ⟨g', 0, none⟩) (4 * r) (4 * r)]) ∧ W.heap.size ≤ g' ∧ Blk w' g' 73 (flV (plsNums 3 (ptsN q ns r))).toArray ∧ Below W.heap.size W w' := by
  have hV : wd 3 = 4 := rfl
  have e2 : ((n : Int) == 0) = false := by rw [beq_eq_false_iff_ne]; omega
  have hdiv := Nat.div_add_mod n (wd q)
  have hwq := wd_pos' q
  have hrn : n / wd q ≤ n := Nat.div_le_self _ _
  have hmul : ∀ i, i < n / wd q → (i + 1) * wd q ≤ n := fun i hi => by
    have := Nat.mul_le_mul_right (wd q) (show i + 1 ≤ n / wd q from hi)
    rw [Nat.mul_comm (n / wd q)] at this
    omega
  have hget := fun (w : World) (hb : Blk w g 73 (flV ns).toArray) i (hi : (i + 1) * wd q ≤ n) => Get_any q q0 q1 g i n c ns w hb hl hi (by omega)
  have hlen := fun w => Length_any q q0 q1 (some ⟨g, 0, none⟩) n c (by omega) w
  have hdim := fun w => dimension_any 3 (by omega) (by omega) w
  rw [hV] at hdim
  rw [hr] at hlen hrn hmul
  have hfl : ∀ i, (flV (plsNums 3 (ptsN q ns i))).length = 4 * i := fun i => by rw [flV_length, plsNums_wd' 3 (by omega) (by omega), ptsN_length, hV, Nat.mul_comm]
  have HG := Hd hget
  have HL := Hd hlen
  have HM := Hd hmul
  have HD := Hd hdim
  have HBK := Hd hblk
  have HFL := Hd hfl
  clear hget hlen hmul hdim hblk hdiv hm hr hV hfl
  obtain ⟨i0, hi0, hz0, hz1, hz2⟩ := info_parts info_f64
  obtain ⟨N, hN⟩ : ∃ N : Nat, N = 4 * r := ⟨_, rfl⟩
  have hN1 : N ≤ 10000000 := by omega
  have hmk : ∀ w : World, (Instr.makeSlice 22 (.int .i64 (4 * (r : Int))) (.int .i64 (4 * (r : Int)))).run Tryz.prog w = .ok (.slice (some ⟨w.heap.size, 0, none⟩) N N) (w.alloc (.cells (madeCells #[.float .f64 0] N) 73)) := fun w => by
    have h := run_make_rowN (P := Tryz.prog) 22 73 i0 (.float .f64 0) Tryz.underlying22 hi0 hz0 .i64 .i64 N N (Nat.le_refl _) (by rw [hz2]; omega) (by omega) w
    rw [hz1, Nat.mul_one] at h
    rw [show (4 * (r : Int)) = ((N : Nat) : Int) by rw [hN]; omega]
    exact h
  go_enter Tryz.func168, Tryz.ntmps168
  go_wp2_with fail
  refine (HL.out _).mono ?_
  rintro e w1 ⟨rfl, h1⟩
  go_wp2_with fail
  refine (HD.out _).mono ?_
  rintro e w2 ⟨rfl, rfl⟩
  go_wp2_with fail
  rw [← hN]
  have hb2 : Below W.heap.size W w2 := ((((Below.refl W.heap.size W).alloc (Nat.le_refl _) _).alloc (by simp) _)).trans (h1.mono (by simp; omega))
  have hs2 : W.heap.size + 2 ≤ w2.heap.size := by have := h1.size; simpa using this
  have x0 := (((Blk.new W 87 #[.int .u8 q, .slice (some ⟨g, 0, none⟩) n c]).alloc (.cells #[.int .u8 0, .slice none 0 0] 87)).below h1 (by simp; omega)).alloc (.cells (madeCells #[.float .f64 0] N) 73)
  have x1 := ((Blk.new (W.alloc (.cells #[.int .u8 q, .slice (some ⟨g, 0, none⟩) n c] 87)) 87 #[.int .u8 0, .slice none 0 0]).below h1 (by simp)).alloc (.cells (madeCells #[.float .f64 0] N) 73)
  have x2 := Blk.new w2 73 (madeCells #[.float .f64 0] N)
  have hb3 := hb2.alloc (by omega) (.cells (madeCells #[.float .f64 0] N) 73)
  have hs3 : (w2.alloc (.cells (madeCells #[.float .f64 0] N) 73)).heap.size = w2.heap.size + 1 := World.size_alloc _ _
  have hmz : (madeCells #[Value.float .f64 0] N).size = N := by rw [madeCells_one]; simp
  rw [World.size_alloc] at x1
  generalize w2.alloc (.cells (madeCells #[.float .f64 0] N) 73) = w3 at *
  generalize w2.heap.size = gf at *
  have X0 := Hd x0
  have X1 := Hd x1
  have X2 := Hd x2
  have HB3 := Hd hb3
  have HMZ := Hd hmz
  have HNN := Hd hN
  clear x0 x1 x2 hb3 hmz hb2 h1 hmk hN
  go_loopw [8] (fun i wr => ∃ (k : Nat) (cs : Array Value), k ≤ r ∧ i = .int .i64 k ∧ Blk wr W.heap.size 87 #[.int .u8 q, .slice (some ⟨g, 0, none⟩) n c] ∧ Blk wr (W.heap.size + 1) 87 #[.int .u8 0, .slice none 0 0] ∧ Blk wr gf 73 cs ∧ cs.size = N ∧ (∀ j, j < 4 * k → cs[j]? = (flV (plsNums 3 (ptsN q ns k)))[j]?) ∧ Below W.heap.size W wr) (fun i _ => r - (intOf i).toNat)
  case atStart => exact ⟨0, _, Nat.zero_le _, rfl, X0.out, X1.out, X2.out, HMZ.out, fun j hj => absurd hj (by omega), HB3.out⟩
  case round =>
    obtain ⟨k, cs, hk, rfl, y0, y1, y2, hcs, hcj, hbr⟩ := hrel
    have hgl : gf < wr.heap.size := y2.lt
    by_cases hlt : k < r
    · have hgk := HG.out wr (HBK.out.below hbr HBK.out.lt) k (HM.out k hlt)
      have hpt : flV (plsNums 3 (ptsN q ns (k + 1))) = flV (plsNums 3 (ptsN q ns k)) ++ flV (plNums 3 (ptN q ns k)) := by rw [ptsN_succ, plsNums_snoc, flV_append]
      have hln := HFL.out k
      have hNk : 4 * k + 4 ≤ N := by have := HNN.out; omega
      generalize flV (plsNums 3 (ptsN q ns k)) = Ls at *
      generalize ptN q ns k = p at *
      obtain ⟨px, py, pz, pm⟩ := p
      have f0 := y0.cell 0
      have f1 := y0.cell 1
      simp at f0 f1
      have Y0 := Hd y0
      have Y1 := Hd y1
      have Y2 := Hd y2
      have HPT := Hd hpt
      have HCJ := Hd hcj
      have HBR := Hd hbr
      have HGK := Hd hgk
      clear y0 y1 y2 hpt hcj hbr hgk
      go_wp2_with fail
      refine HGK.out.mono ?_
      rintro e w5 ⟨rfl, h5⟩
      have y2 := (Y2.out.below h5 hgl).alloc (.cells #[.float .f64 px, .float .f64 py, .float .f64 pz, .float .f64 pm, .int .u8 q] 107)
      have hs5 := h5.size
      have g0 := (y2.cell (4 * k)).trans (Array.getElem?_eq_getElem (by omega))
      have z0 := y2.frozen (4 * k)
      have g1 := (y2.cell (4 * k + 1)).trans (Array.getElem?_eq_getElem (by omega))
      have z1 := y2.frozen (4 * k + 1)
      have g2 := (y2.cell (4 * k + 2)).trans (Array.getElem?_eq_getElem (by omega))
      have z2 := y2.frozen (4 * k + 2)
      have g3 := (y2.cell (4 * k + 3)).trans (Array.getElem?_eq_getElem (by omega))
      have z3 := y2.frozen (4 * k + 3)
      go_wp2
      go_roundw
      case rel =>
        obtain ⟨l1, q10, s1⟩ := set_step hln HCJ.out (by omega) (.float .f64 px)
        obtain ⟨l2, q11, s2⟩ := set_step l1 s1 (by rw [q10]; omega) (.float .f64 py)
        obtain ⟨l3, q12, s3⟩ := set_step l2 s2 (by rw [q11, q10]; omega) (.float .f64 pz)
        obtain ⟨l4, q13, s4⟩ := set_step l3 s3 (by rw [q12, q11, q10]; omega) (.float .f64 pm)
        have ew : flV (plNums 3 (px, py, pz, pm)) = [.float .f64 px, .float .f64 py, .float .f64 pz, .float .f64 pm] := rfl
        have hwb : Below W.heap.size W (w5.alloc (.cells #[.float .f64 px, .float .f64 py, .float .f64 pz, .float .f64 pm, .int .u8 q] 107)) := (HBR.out.trans (h5.mono HBR.out.size)).alloc (by have := HBR.out.size; omega) _
        have hga : W.heap.size ≤ gf := by omega
        refine ⟨k + 1, _, by omega, by go_num, ((((((Y0.out.below h5 Y0.out.lt).alloc _).far (p := ⟨gf, 4 * k, none⟩) (by show _ ≠ gf; omega) (.float .f64 px)).far (p := ⟨gf, 4 * k + 1, none⟩) (by show _ ≠ gf; omega) (.float .f64 py)).far (p := ⟨gf, 4 * k + 2, none⟩) (by show _ ≠ gf; omega) (.float .f64 pz)).far (p := ⟨gf, 4 * k + 3, none⟩) (by show _ ≠ gf; omega) (.float .f64 pm)), ((((((Y1.out.below h5 Y1.out.lt).alloc _).far (p := ⟨gf, 4 * k, none⟩) (by show _ ≠ gf; omega) (.float .f64 px)).far (p := ⟨gf, 4 * k + 1, none⟩) (by show _ ≠ gf; omega) (.float .f64 py)).far (p := ⟨gf, 4 * k + 2, none⟩) (by show _ ≠ gf; omega) (.float .f64 pz)).far (p := ⟨gf, 4 * k + 3, none⟩) (by show _ ≠ gf; omega) (.float .f64 pm)), (Blk.set_ (Blk.set_ (Blk.set_ (Blk.set_ y2 (4 * k) (.float .f64 px)) (4 * k + 1) (.float .f64 py)) (4 * k + 2) (.float .f64 pz)) (4 * k + 3) (.float .f64 pm)), by rw [q13, q12, q11, q10]; exact hcs, fun j hj => ?_, (below_setCell' (below_setCell' (below_setCell' (below_setCell' hwb hga _) hga _) hga _) hga _)⟩
        have h := s4 j (by omega)
        rw [HPT.out, ew]
        simp only [List.append_assoc, List.cons_append, List.nil_append] at h
        exact h
      case measure => simp [intOf]; omega
    · obtain rfl : r = k := by omega
      have hcs2 : cs = (flV (plsNums 3 (ptsN q ns r))).toArray := by
        apply Array.ext_getElem?
        intro j
        have e : (flV (plsNums 3 (ptsN q ns r))).toArray[j]? = (flV (plsNums 3 (ptsN q ns r)))[j]? := by simp
        rw [e]
        rcases Nat.lt_or_ge j (4 * r) with h | h
        · exact hcj j h
        · rw [Array.getElem?_eq_none (by rw [hcs, HNN.out]; exact h), List.getElem?_eq_none (by rw [HFL.out]; exact h)]
      subst hcs2
      have hnr := HNN.out
      have c0 := y1.cell 0
      have c1 := y1.cell 1
      have z0 := y1.frozen 0
      have z1 := y1.frozen 1
      simp at c0 c1
      have e0 : (wr.setCell ⟨W.heap.size + 1, 0, none⟩ (.int .u8 3)).cell? ⟨W.heap.size + 1, 0, none⟩ = some (.int .u8 3) := by simpa using (y1.set_ 0 (.int .u8 3)).cell 0
      have e1 : ((wr.setCell ⟨W.heap.size + 1, 0, none⟩ (.int .u8 3)).setCell ⟨W.heap.size + 1, 1, none⟩ (.slice (some ⟨gf, 0, none⟩) N N)).cell? ⟨W.heap.size + 1, 1, none⟩ = some (.slice (some ⟨gf, 0, none⟩) N N) := by simpa using ((y1.set_ 0 (.int .u8 3)).set_ 1 (.slice (some ⟨gf, 0, none⟩) N N)).cell 1
      have Y2 := Hd y2
      have HBR := Hd hbr
      have HNR := Hd hnr
      clear y0 y1 y2 hbr hcj hcs hnr
      go_wp2
      refine bodyPost_ret (by simp [results, Tryz.results168, go_sem, e0, e1]; try rfl) rfl ?_
      refine ⟨gf, by rw [HNR.out], by omega, (Y2.out.far (by show gf ≠ W.heap.size + 1; omega) _).far (by show gf ≠ W.heap.size + 1; omega) _, ?_⟩
      exact below_setCell' (below_setCell' HBR.out (Nat.le_succ _) _) (Nat.le_succ _) _

end Go.Proofs.YtofdccmmagcamaaGreatDoor

/- Line strings: made of plain data, brought to another type. -/
set_option maxHeartbeats 8000000
set_option linter.unusedSimpArgs false
set_option linter.unusedVariables false
namespace Go.Proofs.YtofdccmmagcamaaGreatDoor
open Go.RowKit

attribute [local go_sem] run_store_float

set_option maxRecDepth 100000 in
theorem SeqForce_any (Q q : Int) (Q0 : 0 ≤ Q) (Q1 : Q ≤ 3) {ok : Nat → Prop} {A : Option Addr} {n c : Nat} {ns : List Nat} (W : World) (h : LsOn W ok [.int .u8 q, .slice A n c] (q, ns)) (hn : n ≤ 1000000) :
    Calls Tryz.prog 168 #[.agg #[.int .u8 q, .slice A n c], .int .u8 Q] W fun e w' => ∃ (A' : Option Addr) (n' c' : Nat), e = .returned (.agg #[.int .u8 Q, .slice A' n' c']) ∧ LsOn w' (fun b => ok b ∨ W.heap.size ≤ b) [.int .u8 Q, .slice A' n' c'] (Q, forceS Q q ns) ∧ Below W.heap.size W w' := by
  have hls := h
  obtain ⟨A', n', c', e, q0, q1, hl, hm, hb, hr⟩ := h
  simp only [List.cons.injEq, Value.slice.injEq, and_true, true_and] at e
  obtain ⟨rfl, rfl, rfl⟩ := e
  simp only at q0 q1 hl hm hb hr
  by_cases hQ : Q = q
  · subst hQ
    have e1 : (Q == Q) = true := beq_self_eq_true _
    rw [forceS_same Q Q0 Q1 ns (by rw [hl]; exact hm)]
    have HLS := Hd hls
    clear hls hr
    go_enter Tryz.func168, Tryz.ntmps168
    go_wp2
    go_returns
    refine ⟨A, n, c, rfl, ?_, by go_grown⟩
    exact LsOn.keeps _ _ _ _ _ _ HLS.out (fun b _ hl => Below.block (B := W.heap.size) (by go_grown) b hl) (fun b h _ => .inl h)
  · have e1 : (q == Q) = false := by rw [beq_eq_false_iff_ne]; exact fun e => hQ e.symm
    by_cases hn0 : n = 0
    · subst hn0
      obtain rfl := List.eq_nil_of_length_eq_zero hl
      clear hls hr
      go_enter Tryz.func168, Tryz.ntmps168
      go_wp2
      go_returns
      refine ⟨none, 0, 0, rfl, ⟨none, 0, 0, rfl, Q0, Q1, by simp [forceS, ptsN, plsNums], by simp, by simp [forceS, ptsN, plsNums], fun h => absurd h (by omega)⟩, by go_grown⟩
    · obtain ⟨g, rfl, hg, hblk⟩ := hr (by omega)
      have hF : forceS Q q ns = plsNums Q (ptsN q ns (n / wd q)) := by unfold forceS; rw [hl]
      have hFL : (forceS Q q ns).length = n / wd q * wd Q := by rw [hF, plsNums_wd' Q Q0 Q1, ptsN_length]
      have hFB : ∀ b ∈ forceS Q q ns, b < 18446744073709551616 := by rw [hF]; exact plsNums_lt' Q q ns _ hb
      have key : ∀ {V : Nat}, wd Q = V → (∀ (r : Nat), n / wd q = r → Calls Tryz.prog 168 #[.agg #[.int .u8 q, .slice (some ⟨g, 0, none⟩) n c], .int .u8 Q] W fun e w' => ∃ g', e = .returned (.agg #[.int .u8 Q, .slice (some ⟨g', 0, none⟩) (V * r) (V * r)]) ∧ W.heap.size ≤ g' ∧ Blk w' g' 73 (flV (plsNums Q (ptsN q ns r))).toArray ∧ Below W.heap.size W w') →
          Calls Tryz.prog 168 #[.agg #[.int .u8 q, .slice (some ⟨g, 0, none⟩) n c], .int .u8 Q] W fun e w' => ∃ (A' : Option Addr) (n' c' : Nat), e = .returned (.agg #[.int .u8 Q, .slice A' n' c']) ∧ LsOn w' (fun b => ok b ∨ W.heap.size ≤ b) [.int .u8 Q, .slice A' n' c'] (Q, forceS Q q ns) ∧ Below W.heap.size W w' := by
        intro V hV hc
        refine (hc _ rfl).mono ?_
        rintro e w' ⟨g', rfl, hg', hb', hbel⟩
        refine ⟨_, _, _, rfl, ⟨some ⟨g', 0, none⟩, V * (n / wd q), V * (n / wd q), rfl, Q0, Q1, by rw [hFL, hV, Nat.mul_comm], by rw [hV]; exact Nat.mul_mod_right _ _, hFB, fun _ => ⟨g', rfl, .inr hg', by rw [hF]; exact hb'⟩⟩, hbel⟩
      have hQc : Q = 0 ∨ Q = 1 ∨ Q = 2 ∨ Q = 3 := by omega
      rcases hQc with rfl | rfl | rfl | rfl
      · exact key rfl (fun r hr => SeqForce0 q q0 q1 e1 W hblk hl (by omega) hm hn r hr)
      · exact key rfl (fun r hr => SeqForce1 q q0 q1 e1 W hblk hl (by omega) hm hn r hr)
      · exact key rfl (fun r hr => SeqForce2 q q0 q1 e1 W hblk hl (by omega) hm hn r hr)
      · exact key rfl (fun r hr => SeqForce3 q q0 q1 e1 W hblk hl (by omega) hm hn r hr)

set_option maxRecDepth 100000 in
theorem LsForce_any (Q q : Int) (Q0 : 0 ≤ Q) (Q1 : Q ≤ 3) {ok : Nat → Prop} {A : Option Addr} {n c : Nat} {ns : List Nat} (W : World) (h : LsOn W ok [.int .u8 q, .slice A n c] (q, ns)) (hn : n ≤ 1000000) :
    Calls Tryz.prog 118 #[.agg #[.int .u8 q, .slice A n c], .int .u8 Q] W fun e w' => ∃ (A' : Option Addr) (n' c' : Nat), e = .returned (.agg #[.int .u8 Q, .slice A' n' c']) ∧ LsOn w' (fun b => ok b ∨ W.heap.size ≤ b) [.int .u8 Q, .slice A' n' c'] (Q, forceS Q q ns) ∧ Below W.heap.size W w' := by
  have H := Hd h
  clear h
  go_enter Tryz.func118, Tryz.ntmps118
  go_wp2_with fail
  have hA : Below W.heap.size W ((W.alloc (.cells #[.int .u8 q, .slice A n c] 89)).alloc (.cells #[.int .u8 0, .slice none 0 0] 89)) := ((Below.refl _ _).alloc (Nat.le_refl _) _).alloc (by simp) _
  refine (SeqForce_any Q q Q0 Q1 _ (LsOn.keeps _ _ _ (fun b => ok b ∧ b < W.heap.size) _ _ H.out (fun b _ hl => hA.block b hl) (fun b h hl => ⟨h, hl⟩)) hn).mono ?_
  rintro e w1 ⟨A', n', c', rfl, h1, b1⟩
  have x1 := (Blk.new (W.alloc (.cells #[.int .u8 q, .slice A n c] 89)) 89 #[.int .u8 0, .slice none 0 0]).below b1 (by simp)
  rw [World.size_alloc] at x1
  have c0 := x1.cell 0
  have c1 := x1.cell 1
  have z0 := x1.frozen 0
  have z1 := x1.frozen 1
  simp at c0 c1
  have e0 : (w1.setCell ⟨W.heap.size + 1, 0, none⟩ (.int .u8 Q)).cell? ⟨W.heap.size + 1, 0, none⟩ = some (.int .u8 Q) := by simpa using (x1.set_ 0 (.int .u8 Q)).cell 0
  have e1 : ((w1.setCell ⟨W.heap.size + 1, 0, none⟩ (.int .u8 Q)).setCell ⟨W.heap.size + 1, 1, none⟩ (.slice A' n' c')).cell? ⟨W.heap.size + 1, 1, none⟩ = some (.slice A' n' c') := by simpa using ((x1.set_ 0 (.int .u8 Q)).set_ 1 (.slice A' n' c')).cell 1
  have B1 := Hd (hA.trans (b1.mono (by simp; omega)))
  have H1 := Hd h1
  clear b1 h1 x1 hA
  go_wp2
  refine bodyPost_ret (by simp [results, Tryz.results118, go_sem, e0, e1]; try rfl) rfl ?_
  refine ⟨A', n', c', rfl, LsOn.keeps _ _ _ _ _ _ H1.out (fun b hb _ => ?_) (fun b hb _ => ?_), ?_⟩
  · have hne : b ≠ W.heap.size + 1 := by
      rcases hb with ⟨_, h⟩ | h
      · omega
      · simp at h; omega
    rw [Below.heap_setCell _ _ _ b hne, Below.heap_setCell _ _ _ b hne]
  · rcases hb with ⟨h, _⟩ | h
    · exact .inl h
    · simp at h; exact .inr (by omega)
  · exact below_setCell' (below_setCell' B1.out (Nat.le_succ _) _) (Nat.le_succ _) _

set_option maxRecDepth 100000 in
theorem NewLineString_any (q : Int) (A : Option Addr) (n c : Nat) (w : World) : Calls Tryz.prog 116 #[.agg #[.int .u8 q, .slice A n c]] w fun e w' => e = .returned (.agg #[.int .u8 q, .slice A n c]) ∧ Below w.heap.size w w' := by
  go_enter Tryz.func116, Tryz.ntmps116
  go_wp2
  go_returns
  exact ⟨rfl, by go_grown⟩

end Go.Proofs.YtofdccmmagcamaaGreatDoor

/- The line string made of plain data. -/
set_option maxHeartbeats 8000000
set_option linter.unusedSimpArgs false
set_option linter.unusedVariables false
namespace Go.Proofs.YtofdccmmagcamaaGreatDoor
open Go.RowKit

attribute [local go_sem] run_store_float

end Go.Proofs.YtofdccmmagcamaaGreatDoor
