import Derived.Test.YtofdccmmagcamaaGreatDoorBxP
import Derived.Test.YtofdccmmagcamaaGreatDoorMhM
import Derived.Test.YtofdccmmagcamaaGreatDoorMhN
import Derived.Deep.Cut
import Derived.Test.YtofdccmmagcamaaGreatDoorBxQ
/- The parser of bytes: a part, by a parser of its own. -/
set_option maxHeartbeats 8000000
set_option linter.unusedSimpArgs false
set_option linter.unusedVariables false
namespace Go.Proofs.YtofdccmmagcamaaGreatDoor
open Go.RowKit

attribute [local go_sem] run_store_float

/-- A parser reads t. -/
def RunAt (t : Gm) : Prop := ∀ (W : World) (B p : Nat) (bo : Int) (no : Bool) (os : List Bool) (rest : List Int), Wp W B p bo no ((wkbT t os).1 ++ rest) → B ≤ W.heap.size →
  Calls Tryz.prog 100 #[.pointer (some ⟨p, 0, none⟩)] W fun e w' => ∃ (q : Int) (T a : Nat), e = .returned (.tuple #[.agg #[.int .i64 q, .iface T (.pointer (some ⟨a, 0, none⟩))], .nilIface]) ∧ GeoG w' (fun b => W.heap.size ≤ b) [.int .i64 q, .iface T (.pointer (some ⟨a, 0, none⟩))] t ∧ (∃ (bo' : Int) (no' : Bool), Wp w' B p bo' no' rest) ∧ W.grownBy w' (some p)

set_option maxRecDepth 100000 in
theorem inner_of {t : Gm} (hR : RunAt t) (W : World) (B p : Nat) (bo : Int) (no : Bool) (os : List Bool) (rest : List Int) (h : Wp W B p bo no ((wkbT t os).1 ++ rest)) (hB : B ≤ W.heap.size) :
    Calls Tryz.prog 215 #[.pointer (some ⟨p, 0, none⟩)] W fun e w' => ∃ (q : Int) (T a : Nat), e = .returned (.tuple #[.agg #[.int .i64 q, .iface T (.pointer (some ⟨a, 0, none⟩))], .nilIface]) ∧ GeoG w' (fun b => W.heap.size ≤ b) [.int .i64 q, .iface T (.pointer (some ⟨a, 0, none⟩))] t ∧ Wp w' B p bo no rest ∧ W.grownBy w' (some p) := by
  have hl := h.lt
  obtain ⟨hp, g, o, n, c, hx, hy⟩ := h
  have c0 := hx.cell 0
  simp at c0
  have hb1 : Below W.heap.size W ((W.alloc (.cells #[.int .i64 0, .nilIface] 68)).alloc (.cells #[.slice (some ⟨g, o, none⟩) n c, .int .u8 0, .bool false] 142)) := ((Below.refl _ _).alloc (Nat.le_refl _) _).alloc (by simp) _
  have r1 := (Blk.new W 68 #[.int .i64 0, .nilIface]).alloc (.cells #[.slice (some ⟨g, o, none⟩) n c, .int .u8 0, .bool false] 142)
  have p1 := Blk.new (W.alloc (.cells #[.int .i64 0, .nilIface] 68)) 142 #[.slice (some ⟨g, o, none⟩) n c, .int .u8 0, .bool false]
  rw [World.size_alloc] at p1
  have hw : Wp ((W.alloc (.cells #[.int .i64 0, .nilIface] 68)).alloc (.cells #[.slice (some ⟨g, o, none⟩) n c, .int .u8 0, .bool false] 142)) B (W.heap.size + 1) 0 false ((wkbT t os).1 ++ rest) := ⟨by omega, g, o, n, c, p1, hy.below (hb1.mono hB)⟩
  have HRUN := Hd (hR _ _ _ _ _ os rest hw (by simp; omega))
  have HX := Hd (hx.below hb1 hl)
  have R1 := Hd r1
  have HB1 := Hd hb1
  clear hx hy hb1 r1 p1 hw hR
  go_enter Tryz.func215, Tryz.ntmps215
  go_wp2_with fail
  refine HRUN.out.mono ?_
  rintro e w2 ⟨q, T, a, rfl, h2, ⟨bo', no', hw2⟩, g2⟩
  obtain ⟨hp2, g', o', n', c', hx2, hy2⟩ := hw2
  have s2 : W.heap.size + 2 ≤ w2.heap.size := by have := g2.size; simpa using this
  have hk2 : ∀ b, b < W.heap.size + 1 → w2.heap[b]? = ((W.alloc (.cells #[.int .i64 0, .nilIface] 68)).alloc (.cells #[.slice (some ⟨g, o, none⟩) n c, .int .u8 0, .bool false] 142)).heap[b]? := fun b hb => g2.block b (by simp; omega) (by intro e; injection e with e; omega)
  have xp := (show Blk w2 p 142 #[.slice (some ⟨g, o, none⟩) n c, .int .u8 bo, .bool no] from (hk2 p (by omega)).trans HX.out)
  have rr := (show Blk w2 W.heap.size 68 #[.int .i64 0, .nilIface] from (hk2 _ (by omega)).trans R1.out)
  have al : Below w2.heap.size w2 (w2.alloc (.cells #[.int .i64 q, .iface T (.pointer (some ⟨a, 0, none⟩))] 68)) := (Below.refl _ _).alloc (Nat.le_refl _) _
  have xp3 := xp.alloc (.cells #[.int .i64 q, .iface T (.pointer (some ⟨a, 0, none⟩))] 68)
  have rr3 := rr.alloc (.cells #[.int .i64 q, .iface T (.pointer (some ⟨a, 0, none⟩))] 68)
  have pi3 := hx2.alloc (.cells #[.int .i64 q, .iface T (.pointer (some ⟨a, 0, none⟩))] 68)
  have nb3 := Blk.new w2 68 #[.int .i64 q, .iface T (.pointer (some ⟨a, 0, none⟩))]
  have gb : W.grownBy (w2.alloc (.cells #[.int .i64 q, .iface T (.pointer (some ⟨a, 0, none⟩))] 68)) (some p) := only_alloc (grown_far (only_of_below HB1.out (some p)) g2 (by omega)) _
  have h3 : GeoG (w2.alloc (.cells #[.int .i64 q, .iface T (.pointer (some ⟨a, 0, none⟩))] 68)) (fun b => W.heap.size + 2 ≤ b ∧ b < w2.heap.size) [.int .i64 q, .iface T (.pointer (some ⟨a, 0, none⟩))] t := GeoG.keeps _ _ _ _ _ _ h2 (fun b _ hl => Below.heap_alloc w2 _ b hl) (fun b hb hl => ⟨by simpa using hb, hl⟩)
  have y3 := hy2.below (al.mono (by omega))
  have i0 := pi3.cell 0
  have p0 := xp3.cell 0
  have pz := xp3.frozen 0
  simp at i0 p0
  have XP := Hd xp3
  have RR := Hd rr3
  have PI := Hd pi3
  have NB := Hd nb3
  have GB := Hd gb
  have H3 := Hd h3
  have Y3 := Hd y3
  have hs3 : (w2.alloc (.cells #[.int .i64 q, .iface T (.pointer (some ⟨a, 0, none⟩))] 68)).heap.size = w2.heap.size + 1 := World.size_alloc _ _
  clear c0 h2 hx2 hy2 g2 hk2 xp rr al xp3 rr3 pi3 nb3 gb h3 y3
  go_upto_region 5 with fail
  generalize (w2.alloc (.cells #[.int .i64 q, .iface T (.pointer (some ⟨a, 0, none⟩))] 68)) = w3 at *
  go_upto_region 6 with fail
  have xp4 : Blk (w3.setCell ⟨p, 0, none⟩ (.slice (some ⟨g', o', none⟩) n' c')) p 142 #[.slice (some ⟨g', o', none⟩) n' c', .int .u8 bo, .bool no] := by simpa using XP.out.set_ 0 (.slice (some ⟨g', o', none⟩) n' c')
  have rr4 := RR.out.far (p := ⟨p, 0, none⟩) (by show W.heap.size ≠ p; omega) (.slice (some ⟨g', o', none⟩) n' c')
  have nb4 := NB.out.far (p := ⟨p, 0, none⟩) (by show w2.heap.size ≠ p; omega) (.slice (some ⟨g', o', none⟩) n' c')
  have gb4 := GB.out.trans (grown_set (W := w3) (p := p) (j := 0) (.slice (some ⟨g', o', none⟩) n' c'))
  have y4 := Y3.out.setP (p := p) (j := 0) hp (.slice (some ⟨g', o', none⟩) n' c')
  have h4 : GeoG (w3.setCell ⟨p, 0, none⟩ (.slice (some ⟨g', o', none⟩) n' c')) (fun b => W.heap.size + 2 ≤ b) [.int .i64 q, .iface T (.pointer (some ⟨a, 0, none⟩))] t := GeoG.keeps _ _ _ _ _ _ H3.out (fun b hb _ => Below.heap_setCell _ _ _ b (by show b ≠ p; omega)) (fun b hb _ => hb.1)
  generalize w3.setCell ⟨p, 0, none⟩ (.slice (some ⟨g', o', none⟩) n' c') = w4 at *
  have n0 := nb4.cell 0
  have n1 := nb4.cell 1
  have r0 := rr4.cell 0
  have r1 := rr4.cell 1
  have z0 := rr4.frozen 0
  have z1 := rr4.frozen 1
  simp at n0 n1 r0 r1
  have e0 : (w4.setCell ⟨W.heap.size, 0, none⟩ (.int .i64 q)).cell? ⟨W.heap.size, 0, none⟩ = some (.int .i64 q) := by simpa using (rr4.set_ 0 (.int .i64 q)).cell 0
  have e1 : ((w4.setCell ⟨W.heap.size, 0, none⟩ (.int .i64 q)).setCell ⟨W.heap.size, 1, none⟩ (.iface T (.pointer (some ⟨a, 0, none⟩)))).cell? ⟨W.heap.size, 1, none⟩ = some (.iface T (.pointer (some ⟨a, 0, none⟩))) := by simpa using ((rr4.set_ 0 (.int .i64 q)).set_ 1 (.iface T (.pointer (some ⟨a, 0, none⟩)))).cell 1
  have X4 := Hd xp4
  have G4 := Hd gb4
  have Y4 := Hd y4
  have H4 := Hd h4
  clear xp4 rr4 nb4 gb4 y4 h4 i0 p0 pz
  go_wp2
  refine bodyPost_ret (by simp [results, Tryz.results215, go_sem, e0, e1]; try rfl) rfl ?_
  refine ⟨q, T, a, rfl, GeoG.keeps _ _ _ _ _ _ H4.out (fun b hb _ => ?_) (fun b hb _ => by omega), ⟨hp, g', o', n', c', X4.out.below (below_two w4 W.heap.size _ _) hl, Y4.out.below ((below_two w4 W.heap.size _ _).mono hB)⟩, grown_under G4.out (below_two w4 W.heap.size _ _) (Nat.le_refl _)⟩
  rw [Below.heap_setCell _ _ _ b (by show b ≠ W.heap.size; omega), Below.heap_setCell _ _ _ b (by show b ≠ W.heap.size; omega)]

end Go.Proofs.YtofdccmmagcamaaGreatDoor

/- The parser of bytes: rows of parts: what they need. -/
set_option maxHeartbeats 8000000
set_option linter.unusedSimpArgs false
set_option linter.unusedVariables false
namespace Go.Proofs.YtofdccmmagcamaaGreatDoor
open Go.RowKit

attribute [local go_sem] run_store_float

theorem parts_same {D k : Int} {ms : List Gm} (d0 : 0 ≤ D) (d1 : D ≤ 3) (h : ∀ t ∈ ms, Wf D t) (hne : ms ≠ []) : (Gm.mk k (ctF ms) [] (ms.map (forceT (ctF ms)))) = .mk k D [] ms := by
  have h1 := force_parts (k := k) d0 d1 h hne
  rw [forceT_mk, row_force_nil] at h1
  exact h1
theorem ok_of_wf {D : Int} (d0 : 0 ≤ D) (d1 : D ≤ 3) {t : Gm} (h : Wf D t) : t.np ≤ 100000 → OkT t := by
  have hsl : ∀ ts : List Gm, ts.length ≤ (ts.map Gm.np).sum := fun ts => by
    induction ts with
    | nil => simp
    | cons t ts ih =>
      have h1 : 1 ≤ t.np := by cases t; rw [np_mk, Nat.add_assoc]; exact Nat.le_add_right _ _
      simp only [List.length_cons, List.map_cons, List.sum_cons]
      omega
  induction h with
  | @pt ns h =>
    intro hn
    rw [np_mk] at hn
    exact .mk d0 d1 (by generalize ns.length / wd D = z at *; omega) (by simp) (fun t ht => by cases ht)
  | @ls ns h =>
    intro hn
    rw [np_mk] at hn
    exact .mk d0 d1 (by generalize ns.length / wd D = z at *; omega) (by simp) (fun t ht => by cases ht)
  | @parts k ks hk h h2 ih =>
    intro hn
    rw [np_mk] at hn
    have := hsl ks
    generalize ([] : List Nat).length / wd D = z at hn
    refine .mk d0 d1 (by simp) (by omega) (fun t ht => ih t ht ?_)
    have := np_mem ht
    omega
theorem wkbsT_snoc' : ∀ (ts : List Gm) (t : Gm) (os : List Bool), wkbsT (ts ++ [t]) os = ((wkbsT ts os).1 ++ (wkbT t (wkbsT ts os).2).1, (wkbT t (wkbsT ts os).2).2)
  | [], t, os => by simp [wkbsT]
  | s :: ts, t, os => by
    have h := wkbsT_snoc' ts t (wkbT s os).2
    show ((wkbT s os).1 ++ (wkbsT (ts ++ [t]) (wkbT s os).2).1, (wkbsT (ts ++ [t]) (wkbT s os).2).2) = _
    rw [h]
    simp [wkbsT]
theorem drop_one {ks : List Gm} {q : Nat} {s : Gm} (h : ks[q]? = some s) : ks.drop q = s :: ks.drop (q + 1) := by
  have hl := (List.getElem?_eq_some_iff.1 h).1
  rw [List.drop_eq_getElem_cons hl]
  have := List.getElem?_eq_getElem hl
  rw [h] at this
  injection this with this
  rw [← this]
theorem wkbsT_drop (ks : List Gm) (os : List Bool) (q : Nat) {s : Gm} (h : ks[q]? = some s) (bs : List Int) : (wkbsT (ks.drop q) (wkbsT (ks.take q) os).2).1 ++ bs = (wkbT s (wkbsT (ks.take q) os).2).1 ++ ((wkbsT (ks.drop (q + 1)) (wkbsT (ks.take (q + 1)) os).2).1 ++ bs) := by
  rw [drop_one h, List.take_add_one, h, Option.toList_some, wkbsT_snoc', ← List.append_assoc]
  rfl
theorem lines_drop (big : Bool) (ks : List Gm) (q : Nat) {s : Gm} (h : ks[q]? = some s) (bs : List Int) : ((ks.drop q).map (lineB big)).flatten ++ bs = lineB big s ++ (((ks.drop (q + 1)).map (lineB big)).flatten ++ bs) := by
  rw [drop_one h, List.map_cons, List.flatten_cons, List.append_assoc]
theorem parseLine_any {W : World} {B p : Nat} (big : Bool) {D : Int} {t : Gm} {bs : List Int} (hB : B ≤ W.heap.size) (d0 : 0 ≤ D) (d1 : D ≤ 3) (hw : Wf D t) (hk : t.k = 2) (hn : NumT t) (hs : t.np ≤ 100000) (h : Wp W B p (if big then 0 else 1) (!big) (lineB big t ++ bs)) :
    Calls Tryz.prog 180 #[.pointer (some ⟨p, 0, none⟩), .int .u8 D] W fun e w' => ∃ (A : Option Addr) (m c : Nat), e = .returned (.tuple #[.agg #[.int .u8 D, .slice A m c], .nilIface]) ∧ LsG w' (fun b => W.heap.size ≤ b) [.int .u8 D, .slice A m c] t ∧ Wp w' B p (if big then 0 else 1) (!big) bs ∧ W.grownBy w' (some p) := by
  cases hw with
  | pt h => exact absurd hk (by show ¬ (1 : Int) = 2; decide)
  | @parts k' ks' hk' h h2 =>
    have h3 : k' = 2 := hk
    exfalso
    omega
  | @ls ns hl =>
    cases hn with
    | mk hb hk' =>
      rw [np_mk] at hs
      have h4 := nums_np d0 d1 ns.length hl
      have e : lineB big (.mk 2 D ns []) ++ bs = uB big 4 (ns.length / wd D) ++ (numsB big ns ++ bs) := by
        show (uB big 4 (ns.length / wd D) ++ numsB big ns) ++ bs = _
        rw [List.append_assoc]
      rw [e] at h
      have hs2 : ns.length ≤ 1000000 := by
        generalize ns.length / wd D = z at *
        omega
      cases big
      · exact parseLine_own hB d0 d1 rfl hl hb hs2 h
      · exact parseLine_far hB d0 d1 rfl hl hb hs2 h
theorem geo_k {w : World} {ok : Nat → Prop} {q : Int} {T a : Nat} {t : Gm} (h : GeoG w ok [.int .i64 q, .iface T (.pointer (some ⟨a, 0, none⟩))] t) :
    (∃ (ST : TypeId) (cs : List Value), LeafR w ok q ST T cs t ∧ ok a ∧ Blk w a ST cs.toArray) ∨ (q = 0 ∧ t.k = 0) := by
  generalize hl : [Value.int .i64 q, .iface T (.pointer (some ⟨a, 0, none⟩))] = l at h
  cases h with
  | leaf h1 h2 h3 =>
    simp only [List.cons.injEq, Value.int.injEq, Value.iface.injEq, Value.pointer.injEq, Option.some.injEq, Addr.mk.injEq, and_true, true_and] at hl
    obtain ⟨rfl, rfl, rfl⟩ := hl
    exact .inl ⟨_, _, h1, h2, h3⟩
  | gc =>
    simp only [List.cons.injEq, Value.int.injEq, Value.iface.injEq, Value.pointer.injEq, Option.some.injEq, Addr.mk.injEq, and_true, true_and] at hl
    exact .inr ⟨hl.1, rfl⟩
theorem leaf_k {w : World} {ok : Nat → Prop} {q : Int} {ST T : TypeId} {cs : List Value} {t : Gm} (h : LeafR w ok q ST T cs t) : t.k = q := by
  rcases h with ⟨rfl, -, -, x, y, z, m, q', f, -, -, -, -, rfl⟩ | ⟨rfl, -, -, q', ns, rfl, -⟩ | ⟨rfl, -, -, A, n, c, q', ks, rfl, -⟩ | ⟨rfl, -, -, A, n, c, q', ks, rfl, -⟩ | ⟨rfl, -, -, A, n, c, q', ks, rfl, -⟩ | ⟨rfl, -, -, A, n, c, q', ks, rfl, -⟩ <;> rfl
theorem geo_pt {w : World} {ok : Nat → Prop} {q : Int} {T a : Nat} {t : Gm} (h : GeoG w ok [.int .i64 q, .iface T (.pointer (some ⟨a, 0, none⟩))] t) (hk : t.k = 1) : q = 1 ∧ T = 128 ∧ ∃ cs, PtG w ok cs t ∧ ok a ∧ Blk w a 109 cs.toArray := by
  rcases geo_k h with ⟨ST, cs, hl, ha, hb⟩ | ⟨_, h0⟩
  · have hq := leaf_k hl
    rcases hl with ⟨rfl, rfl, rfl, h9⟩ | ⟨rfl, -⟩ | ⟨rfl, -⟩ | ⟨rfl, -⟩ | ⟨rfl, -⟩ | ⟨rfl, -⟩
    · exact ⟨rfl, rfl, cs, h9, ha, hb⟩
    all_goals (exfalso; omega)
  · exfalso; omega
theorem geo_ls {w : World} {ok : Nat → Prop} {q : Int} {T a : Nat} {t : Gm} (h : GeoG w ok [.int .i64 q, .iface T (.pointer (some ⟨a, 0, none⟩))] t) (hk : t.k = 2) : q = 2 ∧ T = 129 ∧ ∃ cs, LsG w ok cs t ∧ ok a ∧ Blk w a 89 cs.toArray := by
  rcases geo_k h with ⟨ST, cs, hl, ha, hb⟩ | ⟨_, h0⟩
  · have hq := leaf_k hl
    rcases hl with ⟨rfl, -⟩ | ⟨rfl, rfl, rfl, h9⟩ | ⟨rfl, -⟩ | ⟨rfl, -⟩ | ⟨rfl, -⟩ | ⟨rfl, -⟩
    · exfalso; omega
    · exact ⟨rfl, rfl, cs, h9, ha, hb⟩
    all_goals (exfalso; omega)
  · exfalso; omega
theorem geo_pg {w : World} {ok : Nat → Prop} {q : Int} {T a : Nat} {t : Gm} (h : GeoG w ok [.int .i64 q, .iface T (.pointer (some ⟨a, 0, none⟩))] t) (hk : t.k = 3) : q = 3 ∧ T = 130 ∧ ∃ cs, PgG w ok cs t ∧ ok a ∧ Blk w a 60 cs.toArray := by
  rcases geo_k h with ⟨ST, cs, hl, ha, hb⟩ | ⟨_, h0⟩
  · have hq := leaf_k hl
    rcases hl with ⟨rfl, -⟩ | ⟨rfl, -⟩ | ⟨rfl, rfl, rfl, h9⟩ | ⟨rfl, -⟩ | ⟨rfl, -⟩ | ⟨rfl, -⟩
    · exfalso; omega
    · exfalso; omega
    · exact ⟨rfl, rfl, cs, h9, ha, hb⟩
    all_goals (exfalso; omega)
  · exfalso; omega
set_option maxRecDepth 100000 in
theorem IsPt_any (u : Value) (W : World) : Calls Tryz.prog 216 #[.agg #[.int .i64 1, u]] W fun e w' => e = .returned (.bool true) ∧ Below W.heap.size W w' := by
  go_enter Tryz.func216, Tryz.ntmps216
  go_wp2
  go_ret
  exact ⟨rfl, (Below.refl _ _).alloc (Nat.le_refl _) _⟩
set_option maxRecDepth 100000 in
theorem IsLs_any (u : Value) (W : World) : Calls Tryz.prog 217 #[.agg #[.int .i64 2, u]] W fun e w' => e = .returned (.bool true) ∧ Below W.heap.size W w' := by
  go_enter Tryz.func217, Tryz.ntmps217
  go_wp2
  go_ret
  exact ⟨rfl, (Below.refl _ _).alloc (Nat.le_refl _) _⟩
set_option maxRecDepth 100000 in
theorem IsPg_any (u : Value) (W : World) : Calls Tryz.prog 218 #[.agg #[.int .i64 3, u]] W fun e w' => e = .returned (.bool true) ∧ Below W.heap.size W w' := by
  go_enter Tryz.func218, Tryz.ntmps218
  go_wp2
  go_ret
  exact ⟨rfl, (Below.refl _ _).alloc (Nat.le_refl _) _⟩

end Go.Proofs.YtofdccmmagcamaaGreatDoor
