import Derived.Test.YtofdccmmagcamaaGreatDoorMhH
/- Geometries of parts: ForceCoordinatesType. -/
set_option maxHeartbeats 8000000
set_option linter.unusedSimpArgs false
set_option linter.unusedVariables false
namespace Go.Proofs.YtofdccmmagcamaaGreatDoor
open Go.RowKit Go.Proofs.YtofdccmmagcamaaGreatDoorW.PrintLast

attribute [local go_sem] run_store_float

set_option maxRecDepth 100000 in
theorem PgForce_raw (Q : Int) (Q0 : 0 ≤ Q) (Q1 : Q ≤ 3) {ok : Nat → Prop} {A : Option Addr} {n c : Nat} (q : Int) {ts : List Gm} (W : World) (h : KRow LsG 89 2 W ok (.slice A n c) ts) (hrl : ts.length = n) (hok : ∀ t ∈ ts, OkT t) (hn : n ≤ 100000) :
    Calls Tryz.prog 50 #[.agg #[.slice A n c, .int .u8 q], .int .u8 Q] W fun e w' => ∃ (A' : Option Addr) (n' c' : Nat) (q' : Int), e = .returned (.agg #[.slice A' n' c', .int .u8 q']) ∧ PgG w' (fun b => ok b ∨ W.heap.size ≤ b) [.slice A' n' c', .int .u8 q'] (.mk 3 Q [] (ts.map (forceT Q))) ∧ Below W.heap.size W w' := by
  obtain ⟨i0, hi0, hz0, hz1, hz2⟩ := info_parts info_ls
  have hmk : ∀ w : World, (Instr.makeSlice 57 (.int .i64 (n : Int)) (.int .i64 (n : Int))).run Tryz.prog w = .ok (.slice (some ⟨w.heap.size, 0, none⟩) n n) (w.alloc (.cells (madeCells #[.int .u8 0, .slice none 0 0] (n * 2)) 89)) := fun w => by
    have h := run_make_rowN (P := Tryz.prog) 57 89 i0 (.agg #[.int .u8 0, .slice none 0 0]) Tryz.underlying57 hi0 hz0 .i64 .i64 n n (Nat.le_refl _) (by rw [hz2]; omega) (by omega) w
    rw [hz1] at h
    exact h
  have H := Hd h
  have HRL := Hd hrl
  have HOK := Hd hok
  clear h hrl hok
  go_enter Tryz.func50, Tryz.ntmps50
  go_wp2_with fail
  have hsz2 : ((W.alloc (.cells #[.slice A n c, .int .u8 q] 60)).alloc (.cells #[.slice none 0 0, .int .u8 0] 60)).heap.size = W.heap.size + 2 := by simp
  obtain ⟨css, ho3, hf3⟩ := row_made (R := LsG) (sz := 2) (e := 89) (w := (W.alloc (.cells #[.slice A n c, .int .u8 q] 60)).alloc (.cells #[.slice none 0 0, .int .u8 0] 60)) (ok := fun b => (ok b ∧ b < W.heap.size) ∨ W.heap.size + 3 ≤ b) (ts := ts.map (forceT Q)) (n := n) (cur := madeCells #[.int .u8 0, .slice none 0 0] (n * 2)) (by rw [List.length_map]; exact HRL.out) (size_madeCells _ _) hn
  have b0 := ((Blk.new W 60 #[.slice A n c, .int .u8 q]).alloc (.cells #[.slice none 0 0, .int .u8 0] 60)).alloc (.cells (madeCells #[.int .u8 0, .slice none 0 0] (n * 2)) 89)
  have b1 := (Blk.new (W.alloc (.cells #[.slice A n c, .int .u8 q] 60)) 60 #[.slice none 0 0, .int .u8 0]).alloc (.cells (madeCells #[.int .u8 0, .slice none 0 0] (n * 2)) 89)
  have hb3 : Below W.heap.size W (((W.alloc (.cells #[.slice A n c, .int .u8 q] 60)).alloc (.cells #[.slice none 0 0, .int .u8 0] 60)).alloc (.cells (madeCells #[.int .u8 0, .slice none 0 0] (n * 2)) 89)) := (((Below.refl _ _).alloc (Nat.le_refl _) _).alloc (by simp) _).alloc (by simp; omega) _
  have hs3 : W.heap.size + 3 ≤ (((W.alloc (.cells #[.slice A n c, .int .u8 q] 60)).alloc (.cells #[.slice none 0 0, .int .u8 0] 60)).alloc (.cells (madeCells #[.int .u8 0, .slice none 0 0] (n * 2)) 89)).heap.size := by simp
  rw [hsz2] at ho3
  rw [World.size_alloc] at b1
  generalize ((W.alloc (.cells #[.slice A n c, .int .u8 q] 60)).alloc (.cells #[.slice none 0 0, .int .u8 0] 60)).alloc (.cells (madeCells #[.int .u8 0, .slice none 0 0] (n * 2)) 89) = w3 at *
  have r0 := b0.cell 0
  have r1 := b0.cell 1
  simp at r0 r1
  have HO3 := Hd ho3
  have HF3 := Hd hf3
  have B0 := Hd b0
  have B1 := Hd b1
  have HB3 := Hd hb3
  clear ho3 hf3 b0 b1 hb3 hsz2
  go_wp2_with fail
  go_loopw [14] (fun i wr => ∃ (k : Nat) (cs : List (List Value)), k ≤ n ∧ i = .int .i64 k ∧ Blk wr W.heap.size 60 #[.slice A n c, .int .u8 q] ∧ Blk wr (W.heap.size + 1) 60 #[.slice none 0 0, .int .u8 0] ∧ wr.ownsRow 0 89 2 (.slice (some ⟨W.heap.size + 2, 0, none⟩) n n) n cs.flatten ∧ FillG LsG 2 wr (fun b => (ok b ∧ b < W.heap.size) ∨ W.heap.size + 3 ≤ b) (ts.map (forceT Q)) k cs ∧ Below W.heap.size W wr ∧ W.heap.size + 3 ≤ wr.heap.size) (fun i _ => n - (intOf i).toNat)
  case atStart => exact ⟨0, css, Nat.zero_le _, rfl, B0.out, B1.out, HO3.out, HF3.out, HB3.out, hs3⟩
  case round =>
    obtain ⟨k, cs, hk, rfl, x0, x1, ow, md, hbr, hsr⟩ := hrel
    clear r0 r1
    have r0 := x0.cell 0
    have r1 := x0.cell 1
    simp at r0 r1
    by_cases hlt : k < n
    · obtain ⟨g, x, s, rfl, hgok, hr, hxl, hcl, hrs, hgl⟩ := row_at HRL.out H.out hlt
      replace hgl := hgl (by decide)
      have hsm : s ∈ ts := List.mem_of_getElem? hr
      obtain ⟨rq, rA, rn, rc, rfl, -⟩ := hrs.shape
      have j0 := (hbr.cell (p := ⟨g, k * 2 + 0, none⟩) hgl).trans (hcl 0 _ rfl)
      have j1 := (hbr.cell (p := ⟨g, k * 2 + 1, none⟩) hgl).trans (hcl 1 _ rfl)
      rw [Nat.add_zero] at j0
      have hcall := LsForce_G Q Q0 Q1 wr (LsG.keeps _ _ _ (fun b => ok b ∧ b < W.heap.size) _ _ hrs (fun b _ hl => hbr.block b hl) (fun b h hl => ⟨h.1, hl⟩)) (HOK.out s hsm)
      have hclen : k < cs.length := by rw [md.1, List.length_map, HRL.out]; exact hlt
      have hck : cs[k]? = some (cs[k]'hclen) := List.getElem?_eq_getElem _
      generalize (cs[k]'hclen) = z at hck
      obtain ⟨za, zb, rfl⟩ := list2 (md.2.1 z (List.mem_of_getElem? hck))
      have ad : ∀ g j : Nat, (⟨g, 0, none⟩ : Addr).add j = ⟨g, j, none⟩ := fun g j => by unfold Addr.add; split <;> simp_all
      have k0 := ow.cells (g := W.heap.size + 2) rfl (k * 2 + 0) za (by rw [flat_at md.2.1 hck (by omega)]; rfl)
      have k1 := ow.cells (g := W.heap.size + 2) rfl (k * 2 + 1) zb (by rw [flat_at md.2.1 hck (by omega)]; rfl)
      rw [ad] at k0 k1
      rw [Nat.add_zero] at k0
      have hrk : (ts.map (forceT Q))[k]? = some (forceT Q s) := by rw [List.getElem?_map, hr]; rfl
      have HCALL := Hd hcall
      have OW := Hd ow
      have MD := Hd md
      have X0 := Hd x0
      have X1 := Hd x1
      have HBR := Hd hbr
      have HRK := Hd hrk
      clear hcall ow md x0 x1 hbr hr hck hrk hsm hcl hrs
      go_wp2_with fail
      refine HCALL.out.mono ?_
      rintro e w5 ⟨yq, yA, yn, yc, rfl, h5, b5⟩
      have o5 : w5.ownsRow 0 89 2 (.slice (some ⟨W.heap.size + 2, 0, none⟩) n n) n cs.flatten := own_keep OW.out (fun b _ hb => b5.block b hb)
      have y0 := own_frozen o5 (g := W.heap.size + 2) rfl (k * 2)
      have y1 := own_frozen o5 (g := W.heap.size + 2) rfl (k * 2 + 1)
      have q0 := (b5.cell (p := ⟨W.heap.size + 2, k * 2, none⟩) (by show W.heap.size + 2 < _; omega)).trans k0
      have q1 := (b5.cell (p := ⟨W.heap.size + 2, k * 2 + 1, none⟩) (by show W.heap.size + 2 < _; omega)).trans k1
      have O5 := Hd o5
      have H5 := Hd h5
      have B5 := Hd b5
      clear o5 h5 b5 k0 k1 j0 j1 r0 r1
      go_wp2
      go_roundw
      case rel =>
        have hheap : ∀ b, b ≠ W.heap.size + 2 → ((w5.setCell ⟨W.heap.size + 2, k * 2, none⟩ (.int .u8 yq)).setCell ⟨W.heap.size + 2, k * 2 + 1, none⟩ (.slice yA yn yc)).heap[b]? = w5.heap[b]? := fun b hb => by
          rw [Below.heap_setCell _ _ _ b hb, Below.heap_setCell _ _ _ b hb]
        have hfl : cs.flatten.length = n * 2 := OW.out.1
        have hs5 := B5.out.size
        refine ⟨k + 1, cs.set k [.int .u8 yq, .slice yA yn yc], by omega, by go_num, ((X0.out.below B5.out X0.out.lt).far (by show W.heap.size ≠ W.heap.size + 2; omega) _).far (by show W.heap.size ≠ W.heap.size + 2; omega) _, ((X1.out.below B5.out X1.out.lt).far (by show W.heap.size + 1 ≠ W.heap.size + 2; omega) _).far (by show W.heap.size + 1 ≠ W.heap.size + 2; omega) _, ?_, FillG.next (FillG.keep LsG.keeps MD.out (fun b hb hl => (hheap b (by omega)).trans (B5.out.block b hl)) (fun b hb _ => hb)) HRK.out rfl (LsG.keeps _ _ _ _ _ _ H5.out (fun b hb _ => hheap b ?_) (fun b hb _ => ?_)), below_setCell' (below_setCell' (HBR.out.trans (B5.out.mono HBR.out.size)) (by show W.heap.size ≤ W.heap.size + 2; omega) _) (by show W.heap.size ≤ W.heap.size + 2; omega) _, by simp [World.setCell]; omega⟩
        · rw [flat_set2 MD.out.2.1 hclen]
          exact own_store (own_store O5.out rfl (by rw [hfl]; omega) _) rfl (by rw [List.length_set, hfl]; omega) _
        · rcases hb with h | h
          · have := h.2; omega
          · omega
        · rcases hb with h | h
          · exact .inl h
          · exact .inr (by omega)
      case measure => simp [intOf]; omega
    · obtain rfl : n = k := by omega
      have c0 := x1.cell 0
      have c1' := x1.cell 1
      have z0 := x1.frozen 0
      have z1 := x1.frozen 1
      simp at c0 c1'
      have e0 : (wr.setCell ⟨W.heap.size + 1, 0, none⟩ (.slice (some ⟨W.heap.size + 2, 0, none⟩) n n)).cell? ⟨W.heap.size + 1, 0, none⟩ = some (.slice (some ⟨W.heap.size + 2, 0, none⟩) n n) := by simpa using (x1.set_ 0 (.slice (some ⟨W.heap.size + 2, 0, none⟩) n n)).cell 0
      have e1 : ((wr.setCell ⟨W.heap.size + 1, 0, none⟩ (.slice (some ⟨W.heap.size + 2, 0, none⟩) n n)).setCell ⟨W.heap.size + 1, 1, none⟩ (.int .u8 Q)).cell? ⟨W.heap.size + 1, 1, none⟩ = some (.int .u8 Q) := by simpa using ((x1.set_ 0 (.slice (some ⟨W.heap.size + 2, 0, none⟩) n n)).set_ 1 (.int .u8 Q)).cell 1
      have hrow : KRow LsG 89 2 wr (fun b => (ok b ∧ b < W.heap.size) ∨ W.heap.size + 2 ≤ b) (.slice (some ⟨W.heap.size + 2, 0, none⟩) n n) (ts.map (forceT Q)) :=
        FillG.row LsG.keeps md (by rw [List.length_map, HRL.out]) ow (fun b hb => ⟨by rcases hb with h | h; exact .inl h; exact .inr (by omega), by omega⟩) (.inr (Nat.le_refl _))
      have ROW := Hd hrow
      have HBR := Hd hbr
      clear hrow hbr x0 x1 ow md
      go_wp2
      refine bodyPost_ret (by simp [results, Tryz.results50, go_sem, e0, e1]; try rfl) rfl ?_
      refine ⟨some ⟨W.heap.size + 2, 0, none⟩, n, n, Q, rfl, ⟨some ⟨W.heap.size + 2, 0, none⟩, n, n, Q, _, rfl, rfl, Q0, Q1, by rw [List.length_map, HRL.out], hn, KRow.keep LsG.keeps ROW.out (fun b hb _ => ?_) (fun b hb _ => ?_)⟩, ?_⟩
      · have hne : b ≠ W.heap.size + 1 := by rcases hb with h | h <;> omega
        rw [Below.heap_setCell _ _ _ b hne, Below.heap_setCell _ _ _ b hne]
      · rcases hb with h | h
        · exact .inl h.1
        · exact .inr (by omega)
      · exact below_setCell' (below_setCell' HBR.out (Nat.le_succ _) _) (Nat.le_succ _) _

theorem PgForce_G (Q : Int) (Q0 : 0 ≤ Q) (Q1 : Q ≤ 3) {ok : Nat → Prop} {A : Option Addr} {n c : Nat} {q : Int} {t : Gm} (W : World) (h : PgG W ok [.slice A n c, .int .u8 q] t) (ho : OkT t) :
    Calls Tryz.prog 50 #[.agg #[.slice A n c, .int .u8 q], .int .u8 Q] W fun e w' => ∃ (A' : Option Addr) (n' c' : Nat) (q' : Int), e = .returned (.agg #[.slice A' n' c', .int .u8 q']) ∧ PgG w' (fun b => ok b ∨ W.heap.size ≤ b) [.slice A' n' c', .int .u8 q'] (forceT Q t) ∧ Below W.heap.size W w' := by
  obtain ⟨A', n', c', q', ks, rfl, e, h0, h1, hl, hn, hr⟩ := h
  simp only [List.cons.injEq, Value.slice.injEq, Value.int.injEq, and_true, true_and] at e
  obtain ⟨⟨rfl, rfl, rfl⟩, rfl⟩ := e
  rw [forceT_mk, row_force_nil]
  cases ho with
  | mk d0 d1 hn' hm hk => exact PgForce_raw Q Q0 Q1 q W hr hl hk hn

end Go.Proofs.YtofdccmmagcamaaGreatDoor

/- Geometries of parts: ForceCoordinatesType. -/
set_option maxHeartbeats 8000000
set_option linter.unusedSimpArgs false
set_option linter.unusedVariables false
namespace Go.Proofs.YtofdccmmagcamaaGreatDoor
open Go.RowKit Go.Proofs.YtofdccmmagcamaaGreatDoorW.PrintLast

attribute [local go_sem] run_store_float

set_option maxRecDepth 100000 in
theorem MlForce_raw (Q : Int) (Q0 : 0 ≤ Q) (Q1 : Q ≤ 3) {ok : Nat → Prop} {A : Option Addr} {n c : Nat} (q : Int) {ts : List Gm} (W : World) (h : KRow LsG 89 2 W ok (.slice A n c) ts) (hrl : ts.length = n) (hok : ∀ t ∈ ts, OkT t) (hn : n ≤ 100000) :
    Calls Tryz.prog 128 #[.agg #[.slice A n c, .int .u8 q], .int .u8 Q] W fun e w' => ∃ (A' : Option Addr) (n' c' : Nat) (q' : Int), e = .returned (.agg #[.slice A' n' c', .int .u8 q']) ∧ MlG w' (fun b => ok b ∨ W.heap.size ≤ b) [.slice A' n' c', .int .u8 q'] (.mk 5 Q [] (ts.map (forceT Q))) ∧ Below W.heap.size W w' := by
  obtain ⟨i0, hi0, hz0, hz1, hz2⟩ := info_parts info_ls
  have hmk : ∀ w : World, (Instr.makeSlice 57 (.int .i64 (n : Int)) (.int .i64 (n : Int))).run Tryz.prog w = .ok (.slice (some ⟨w.heap.size, 0, none⟩) n n) (w.alloc (.cells (madeCells #[.int .u8 0, .slice none 0 0] (n * 2)) 89)) := fun w => by
    have h := run_make_rowN (P := Tryz.prog) 57 89 i0 (.agg #[.int .u8 0, .slice none 0 0]) Tryz.underlying57 hi0 hz0 .i64 .i64 n n (Nat.le_refl _) (by rw [hz2]; omega) (by omega) w
    rw [hz1] at h
    exact h
  have H := Hd h
  have HRL := Hd hrl
  have HOK := Hd hok
  clear h hrl hok
  go_enter Tryz.func128, Tryz.ntmps128
  go_wp2_with fail
  have hsz2 : ((W.alloc (.cells #[.slice A n c, .int .u8 q] 117)).alloc (.cells #[.slice none 0 0, .int .u8 0] 117)).heap.size = W.heap.size + 2 := by simp
  obtain ⟨css, ho3, hf3⟩ := row_made (R := LsG) (sz := 2) (e := 89) (w := (W.alloc (.cells #[.slice A n c, .int .u8 q] 117)).alloc (.cells #[.slice none 0 0, .int .u8 0] 117)) (ok := fun b => (ok b ∧ b < W.heap.size) ∨ W.heap.size + 3 ≤ b) (ts := ts.map (forceT Q)) (n := n) (cur := madeCells #[.int .u8 0, .slice none 0 0] (n * 2)) (by rw [List.length_map]; exact HRL.out) (size_madeCells _ _) hn
  have b0 := ((Blk.new W 117 #[.slice A n c, .int .u8 q]).alloc (.cells #[.slice none 0 0, .int .u8 0] 117)).alloc (.cells (madeCells #[.int .u8 0, .slice none 0 0] (n * 2)) 89)
  have b1 := (Blk.new (W.alloc (.cells #[.slice A n c, .int .u8 q] 117)) 117 #[.slice none 0 0, .int .u8 0]).alloc (.cells (madeCells #[.int .u8 0, .slice none 0 0] (n * 2)) 89)
  have hb3 : Below W.heap.size W (((W.alloc (.cells #[.slice A n c, .int .u8 q] 117)).alloc (.cells #[.slice none 0 0, .int .u8 0] 117)).alloc (.cells (madeCells #[.int .u8 0, .slice none 0 0] (n * 2)) 89)) := (((Below.refl _ _).alloc (Nat.le_refl _) _).alloc (by simp) _).alloc (by simp; omega) _
  have hs3 : W.heap.size + 3 ≤ (((W.alloc (.cells #[.slice A n c, .int .u8 q] 117)).alloc (.cells #[.slice none 0 0, .int .u8 0] 117)).alloc (.cells (madeCells #[.int .u8 0, .slice none 0 0] (n * 2)) 89)).heap.size := by simp
  rw [hsz2] at ho3
  rw [World.size_alloc] at b1
  generalize ((W.alloc (.cells #[.slice A n c, .int .u8 q] 117)).alloc (.cells #[.slice none 0 0, .int .u8 0] 117)).alloc (.cells (madeCells #[.int .u8 0, .slice none 0 0] (n * 2)) 89) = w3 at *
  have r0 := b0.cell 0
  have r1 := b0.cell 1
  simp at r0 r1
  have HO3 := Hd ho3
  have HF3 := Hd hf3
  have B0 := Hd b0
  have B1 := Hd b1
  have HB3 := Hd hb3
  clear ho3 hf3 b0 b1 hb3 hsz2
  go_wp2_with fail
  go_loopw [14] (fun i wr => ∃ (k : Nat) (cs : List (List Value)), k ≤ n ∧ i = .int .i64 k ∧ Blk wr W.heap.size 117 #[.slice A n c, .int .u8 q] ∧ Blk wr (W.heap.size + 1) 117 #[.slice none 0 0, .int .u8 0] ∧ wr.ownsRow 0 89 2 (.slice (some ⟨W.heap.size + 2, 0, none⟩) n n) n cs.flatten ∧ FillG LsG 2 wr (fun b => (ok b ∧ b < W.heap.size) ∨ W.heap.size + 3 ≤ b) (ts.map (forceT Q)) k cs ∧ Below W.heap.size W wr ∧ W.heap.size + 3 ≤ wr.heap.size) (fun i _ => n - (intOf i).toNat)
  case atStart => exact ⟨0, css, Nat.zero_le _, rfl, B0.out, B1.out, HO3.out, HF3.out, HB3.out, hs3⟩
  case round =>
    obtain ⟨k, cs, hk, rfl, x0, x1, ow, md, hbr, hsr⟩ := hrel
    clear r0 r1
    have r0 := x0.cell 0
    have r1 := x0.cell 1
    simp at r0 r1
    by_cases hlt : k < n
    · obtain ⟨g, x, s, rfl, hgok, hr, hxl, hcl, hrs, hgl⟩ := row_at HRL.out H.out hlt
      replace hgl := hgl (by decide)
      have hsm : s ∈ ts := List.mem_of_getElem? hr
      obtain ⟨rq, rA, rn, rc, rfl, -⟩ := hrs.shape
      have j0 := (hbr.cell (p := ⟨g, k * 2 + 0, none⟩) hgl).trans (hcl 0 _ rfl)
      have j1 := (hbr.cell (p := ⟨g, k * 2 + 1, none⟩) hgl).trans (hcl 1 _ rfl)
      rw [Nat.add_zero] at j0
      have hcall := LsForce_G Q Q0 Q1 wr (LsG.keeps _ _ _ (fun b => ok b ∧ b < W.heap.size) _ _ hrs (fun b _ hl => hbr.block b hl) (fun b h hl => ⟨h.1, hl⟩)) (HOK.out s hsm)
      have hclen : k < cs.length := by rw [md.1, List.length_map, HRL.out]; exact hlt
      have hck : cs[k]? = some (cs[k]'hclen) := List.getElem?_eq_getElem _
      generalize (cs[k]'hclen) = z at hck
      obtain ⟨za, zb, rfl⟩ := list2 (md.2.1 z (List.mem_of_getElem? hck))
      have ad : ∀ g j : Nat, (⟨g, 0, none⟩ : Addr).add j = ⟨g, j, none⟩ := fun g j => by unfold Addr.add; split <;> simp_all
      have k0 := ow.cells (g := W.heap.size + 2) rfl (k * 2 + 0) za (by rw [flat_at md.2.1 hck (by omega)]; rfl)
      have k1 := ow.cells (g := W.heap.size + 2) rfl (k * 2 + 1) zb (by rw [flat_at md.2.1 hck (by omega)]; rfl)
      rw [ad] at k0 k1
      rw [Nat.add_zero] at k0
      have hrk : (ts.map (forceT Q))[k]? = some (forceT Q s) := by rw [List.getElem?_map, hr]; rfl
      have HCALL := Hd hcall
      have OW := Hd ow
      have MD := Hd md
      have X0 := Hd x0
      have X1 := Hd x1
      have HBR := Hd hbr
      have HRK := Hd hrk
      clear hcall ow md x0 x1 hbr hr hck hrk hsm hcl hrs
      go_wp2_with fail
      refine HCALL.out.mono ?_
      rintro e w5 ⟨yq, yA, yn, yc, rfl, h5, b5⟩
      have o5 : w5.ownsRow 0 89 2 (.slice (some ⟨W.heap.size + 2, 0, none⟩) n n) n cs.flatten := own_keep OW.out (fun b _ hb => b5.block b hb)
      have y0 := own_frozen o5 (g := W.heap.size + 2) rfl (k * 2)
      have y1 := own_frozen o5 (g := W.heap.size + 2) rfl (k * 2 + 1)
      have q0 := (b5.cell (p := ⟨W.heap.size + 2, k * 2, none⟩) (by show W.heap.size + 2 < _; omega)).trans k0
      have q1 := (b5.cell (p := ⟨W.heap.size + 2, k * 2 + 1, none⟩) (by show W.heap.size + 2 < _; omega)).trans k1
      have O5 := Hd o5
      have H5 := Hd h5
      have B5 := Hd b5
      clear o5 h5 b5 k0 k1 j0 j1 r0 r1
      go_wp2
      go_roundw
      case rel =>
        have hheap : ∀ b, b ≠ W.heap.size + 2 → ((w5.setCell ⟨W.heap.size + 2, k * 2, none⟩ (.int .u8 yq)).setCell ⟨W.heap.size + 2, k * 2 + 1, none⟩ (.slice yA yn yc)).heap[b]? = w5.heap[b]? := fun b hb => by
          rw [Below.heap_setCell _ _ _ b hb, Below.heap_setCell _ _ _ b hb]
        have hfl : cs.flatten.length = n * 2 := OW.out.1
        have hs5 := B5.out.size
        refine ⟨k + 1, cs.set k [.int .u8 yq, .slice yA yn yc], by omega, by go_num, ((X0.out.below B5.out X0.out.lt).far (by show W.heap.size ≠ W.heap.size + 2; omega) _).far (by show W.heap.size ≠ W.heap.size + 2; omega) _, ((X1.out.below B5.out X1.out.lt).far (by show W.heap.size + 1 ≠ W.heap.size + 2; omega) _).far (by show W.heap.size + 1 ≠ W.heap.size + 2; omega) _, ?_, FillG.next (FillG.keep LsG.keeps MD.out (fun b hb hl => (hheap b (by omega)).trans (B5.out.block b hl)) (fun b hb _ => hb)) HRK.out rfl (LsG.keeps _ _ _ _ _ _ H5.out (fun b hb _ => hheap b ?_) (fun b hb _ => ?_)), below_setCell' (below_setCell' (HBR.out.trans (B5.out.mono HBR.out.size)) (by show W.heap.size ≤ W.heap.size + 2; omega) _) (by show W.heap.size ≤ W.heap.size + 2; omega) _, by simp [World.setCell]; omega⟩
        · rw [flat_set2 MD.out.2.1 hclen]
          exact own_store (own_store O5.out rfl (by rw [hfl]; omega) _) rfl (by rw [List.length_set, hfl]; omega) _
        · rcases hb with h | h
          · have := h.2; omega
          · omega
        · rcases hb with h | h
          · exact .inl h
          · exact .inr (by omega)
      case measure => simp [intOf]; omega
    · obtain rfl : n = k := by omega
      have c0 := x1.cell 0
      have c1' := x1.cell 1
      have z0 := x1.frozen 0
      have z1 := x1.frozen 1
      simp at c0 c1'
      have e0 : (wr.setCell ⟨W.heap.size + 1, 0, none⟩ (.slice (some ⟨W.heap.size + 2, 0, none⟩) n n)).cell? ⟨W.heap.size + 1, 0, none⟩ = some (.slice (some ⟨W.heap.size + 2, 0, none⟩) n n) := by simpa using (x1.set_ 0 (.slice (some ⟨W.heap.size + 2, 0, none⟩) n n)).cell 0
      have e1 : ((wr.setCell ⟨W.heap.size + 1, 0, none⟩ (.slice (some ⟨W.heap.size + 2, 0, none⟩) n n)).setCell ⟨W.heap.size + 1, 1, none⟩ (.int .u8 Q)).cell? ⟨W.heap.size + 1, 1, none⟩ = some (.int .u8 Q) := by simpa using ((x1.set_ 0 (.slice (some ⟨W.heap.size + 2, 0, none⟩) n n)).set_ 1 (.int .u8 Q)).cell 1
      have hrow : KRow LsG 89 2 wr (fun b => (ok b ∧ b < W.heap.size) ∨ W.heap.size + 2 ≤ b) (.slice (some ⟨W.heap.size + 2, 0, none⟩) n n) (ts.map (forceT Q)) :=
        FillG.row LsG.keeps md (by rw [List.length_map, HRL.out]) ow (fun b hb => ⟨by rcases hb with h | h; exact .inl h; exact .inr (by omega), by omega⟩) (.inr (Nat.le_refl _))
      have ROW := Hd hrow
      have HBR := Hd hbr
      clear hrow hbr x0 x1 ow md
      go_wp2
      refine bodyPost_ret (by simp [results, Tryz.results128, go_sem, e0, e1]; try rfl) rfl ?_
      refine ⟨some ⟨W.heap.size + 2, 0, none⟩, n, n, Q, rfl, ⟨some ⟨W.heap.size + 2, 0, none⟩, n, n, Q, _, rfl, rfl, Q0, Q1, by rw [List.length_map, HRL.out], hn, KRow.keep LsG.keeps ROW.out (fun b hb _ => ?_) (fun b hb _ => ?_)⟩, ?_⟩
      · have hne : b ≠ W.heap.size + 1 := by rcases hb with h | h <;> omega
        rw [Below.heap_setCell _ _ _ b hne, Below.heap_setCell _ _ _ b hne]
      · rcases hb with h | h
        · exact .inl h.1
        · exact .inr (by omega)
      · exact below_setCell' (below_setCell' HBR.out (Nat.le_succ _) _) (Nat.le_succ _) _

theorem MlForce_G (Q : Int) (Q0 : 0 ≤ Q) (Q1 : Q ≤ 3) {ok : Nat → Prop} {A : Option Addr} {n c : Nat} {q : Int} {t : Gm} (W : World) (h : MlG W ok [.slice A n c, .int .u8 q] t) (ho : OkT t) :
    Calls Tryz.prog 128 #[.agg #[.slice A n c, .int .u8 q], .int .u8 Q] W fun e w' => ∃ (A' : Option Addr) (n' c' : Nat) (q' : Int), e = .returned (.agg #[.slice A' n' c', .int .u8 q']) ∧ MlG w' (fun b => ok b ∨ W.heap.size ≤ b) [.slice A' n' c', .int .u8 q'] (forceT Q t) ∧ Below W.heap.size W w' := by
  obtain ⟨A', n', c', q', ks, rfl, e, h0, h1, hl, hn, hr⟩ := h
  simp only [List.cons.injEq, Value.slice.injEq, Value.int.injEq, and_true, true_and] at e
  obtain ⟨⟨rfl, rfl, rfl⟩, rfl⟩ := e
  rw [forceT_mk, row_force_nil]
  cases ho with
  | mk d0 d1 hn' hm hk => exact MlForce_raw Q Q0 Q1 q W hr hl hk hn

end Go.Proofs.YtofdccmmagcamaaGreatDoor
