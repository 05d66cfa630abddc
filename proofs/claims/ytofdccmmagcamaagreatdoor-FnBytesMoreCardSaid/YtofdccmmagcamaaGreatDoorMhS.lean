import Derived.Test.YtofdccmmagcamaaGreatDoorMhV
import Derived.Test.YtofdccmmagcamaaGreatDoorMhQ
import Derived.Test.YtofdccmmagcamaaGreatDoorBxK
import Derived.Test.YtofdccmmagcamaaGreatDoorBxL
import Derived.Test.YtofdccmmagcamaaGreatDoorBxM
import Derived.Deep.Cut
import Derived.Test.YtofdccmmagcamaaGreatDoorMhN
import Derived.Test.YtofdccmmagcamaaGreatDoorMhR
import Derived.Test.YtofdccmmagcamaaGreatDoorMhO
/- The bytes of a geometry, read: geom.UnmarshalWKB, impl.ReadWKB. -/
set_option maxHeartbeats 8000000
set_option linter.unusedSimpArgs false
set_option linter.unusedVariables false
namespace Go.Proofs.YtofdccmmagcamaaGreatDoor
open Go.RowKit

attribute [local go_sem] run_store_float

set_option maxRecDepth 100000 in
theorem noCheck_false (W : World) : Calls Tryz.prog 43 #[.bool false] W fun e w' => ∃ A, e = .returned (.slice A 1 1) ∧ Below W.heap.size W w' := by
  go_enter Tryz.func43, Tryz.ntmps43
  go_wp2
  go_returns
  exact ⟨_, rfl, (Below.refl _ _).alloc (Nat.le_refl _) _⟩

set_option maxRecDepth 100000 in
theorem Unmarshal_any {t : Gm} (hR : RunAt t) {W : World} {g o n c : Nat} {os : List Bool} {rest : List Int} (hy : By W W.heap.size g o n c ((wkbT t os).1 ++ rest)) (A : Option Addr) :
    Calls Tryz.prog 42 #[.slice (some ⟨g, o, none⟩) n c, .slice A 1 1] W fun e w' => ∃ (q : Int) (T a : Nat), e = .returned (.tuple #[.agg #[.int .i64 q, .iface T (.pointer (some ⟨a, 0, none⟩))], .nilIface]) ∧ GeoG w' (fun b => W.heap.size ≤ b) [.int .i64 q, .iface T (.pointer (some ⟨a, 0, none⟩))] t ∧ Below W.heap.size W w' := by
  have hb1 : Below W.heap.size W ((W.alloc (.cells #[.int .i64 0, .nilIface] 68)).alloc (.cells #[.slice (some ⟨g, o, none⟩) n c, .int .u8 0, .bool false] 142)) := ((Below.refl _ _).alloc (Nat.le_refl _) _).alloc (by simp) _
  have r1 := (Blk.new W 68 #[.int .i64 0, .nilIface]).alloc (.cells #[.slice (some ⟨g, o, none⟩) n c, .int .u8 0, .bool false] 142)
  have p1 := Blk.new (W.alloc (.cells #[.int .i64 0, .nilIface] 68)) 142 #[.slice (some ⟨g, o, none⟩) n c, .int .u8 0, .bool false]
  rw [World.size_alloc] at p1
  have hw : Wp ((W.alloc (.cells #[.int .i64 0, .nilIface] 68)).alloc (.cells #[.slice (some ⟨g, o, none⟩) n c, .int .u8 0, .bool false] 142)) W.heap.size (W.heap.size + 1) 0 false ((wkbT t os).1 ++ rest) := ⟨by omega, g, o, n, c, p1, hy.below hb1⟩
  have HRUN := Hd (hR _ _ _ _ _ os rest hw (by simp; omega))
  have R1 := Hd r1
  have HB1 := Hd hb1
  clear hy hb1 r1 p1 hw hR
  go_enter Tryz.func42, Tryz.ntmps42
  go_wp2_with fail
  refine HRUN.out.mono ?_
  rintro e w2 ⟨q, T, a, rfl, h2, -, g2⟩
  have s2 : W.heap.size + 2 ≤ w2.heap.size := by have := g2.size; simpa using this
  have hk2 : ∀ b, b < W.heap.size + 1 → w2.heap[b]? = ((W.alloc (.cells #[.int .i64 0, .nilIface] 68)).alloc (.cells #[.slice (some ⟨g, o, none⟩) n c, .int .u8 0, .bool false] 142)).heap[b]? := fun b hb => g2.block b (by simp; omega) (by intro e; injection e with e; omega)
  have rr := (show Blk w2 W.heap.size 68 #[.int .i64 0, .nilIface] from (hk2 _ (by omega)).trans R1.out)
  have rr3 := rr.alloc (.cells #[.int .i64 q, .iface T (.pointer (some ⟨a, 0, none⟩))] 68)
  have nb3 := Blk.new w2 68 #[.int .i64 q, .iface T (.pointer (some ⟨a, 0, none⟩))]
  have gb : Below W.heap.size W (w2.alloc (.cells #[.int .i64 q, .iface T (.pointer (some ⟨a, 0, none⟩))] 68)) := (below_grownBy HB1.out HB1.out.size g2 (fun b hb => by injection hb with hb; omega)).alloc (by omega) _
  have h3 : GeoG (w2.alloc (.cells #[.int .i64 q, .iface T (.pointer (some ⟨a, 0, none⟩))] 68)) (fun b => W.heap.size + 2 ≤ b ∧ b < w2.heap.size) [.int .i64 q, .iface T (.pointer (some ⟨a, 0, none⟩))] t := GeoG.keeps _ _ _ _ _ _ h2 (fun b _ hl => Below.heap_alloc w2 _ b hl) (fun b hb hl => ⟨by simpa using hb, hl⟩)
  have RR := Hd rr3
  have NB := Hd nb3
  have GB := Hd gb
  have H3 := Hd h3
  clear h2 g2 hk2 rr rr3 nb3 gb h3 HB1 R1 HRUN
  go_upto_region 3 with fail
  generalize (w2.alloc (.cells #[.int .i64 q, .iface T (.pointer (some ⟨a, 0, none⟩))] 68)) = w4 at *
  have n0 := NB.out.cell 0
  have n1 := NB.out.cell 1
  have r0 := RR.out.cell 0
  have r1 := RR.out.cell 1
  have z0 := RR.out.frozen 0
  have z1 := RR.out.frozen 1
  simp at n0 n1 r0 r1
  have e0 : (w4.setCell ⟨W.heap.size, 0, none⟩ (.int .i64 q)).cell? ⟨W.heap.size, 0, none⟩ = some (.int .i64 q) := by simpa using (RR.out.set_ 0 (.int .i64 q)).cell 0
  have e1 : ((w4.setCell ⟨W.heap.size, 0, none⟩ (.int .i64 q)).setCell ⟨W.heap.size, 1, none⟩ (.iface T (.pointer (some ⟨a, 0, none⟩)))).cell? ⟨W.heap.size, 1, none⟩ = some (.iface T (.pointer (some ⟨a, 0, none⟩))) := by simpa using ((RR.out.set_ 0 (.int .i64 q)).set_ 1 (.iface T (.pointer (some ⟨a, 0, none⟩)))).cell 1
  go_wp2
  refine bodyPost_ret (by simp [results, Tryz.results42, go_sem, e0, e1]; try rfl) rfl ?_
  refine ⟨q, T, a, rfl, GeoG.keeps _ _ _ _ _ _ H3.out (fun b hb _ => ?_) (fun b hb _ => by omega), GB.out.trans (below_two w4 W.heap.size _ _)⟩
  rw [Below.heap_setCell _ _ _ b (by show b ≠ W.heap.size; omega), Below.heap_setCell _ _ _ b (by show b ≠ W.heap.size; omega)]

set_option maxRecDepth 100000 in
theorem ReadWKB_any {t : Gm} (hR : RunAt t) (hs : t.np ≤ 100000) {W : World} {g o n c : Nat} {os : List Bool} {rest : List Int} (hy : By W W.heap.size g o n c ((wkbT t os).1 ++ rest)) :
    Calls Tryz.prog 24 #[.slice (some ⟨g, o, none⟩) n c, .bool false] W fun e w' => ∃ cs, e = .returned (.tuple #[.agg cs.toArray, .bool true]) ∧ GmOn w' (fun b => W.heap.size ≤ b) cs t ∧ Below W.heap.size W w' := by
  have hb1 : Below W.heap.size W (W.alloc (.cells #[.int .i64 0, .int .i64 0, .slice none 0 0, .slice none 0 0] 25)) := (Below.refl _ _).alloc (Nat.le_refl _) _
  have r1 := Blk.new W 25 #[.int .i64 0, .int .i64 0, .slice none 0 0, .slice none 0 0]
  have R1 := Hd r1
  have HB1 := Hd hb1
  have HY := Hd hy
  have HRT := Hd hR
  clear hy hb1 r1 hR
  go_enter Tryz.func24, Tryz.ntmps24
  go_wp2_with fail
  refine (noCheck_false _).mono ?_
  rintro e w2 ⟨A, rfl, b2⟩
  have s2 : W.heap.size + 1 ≤ w2.heap.size := by have := b2.size; simpa using this
  have B2 := Hd (HB1.out.trans (b2.mono HB1.out.size))
  have R2 := Hd (R1.out.below b2 R1.out.lt)
  have Y2 : Hid (By w2 w2.heap.size g o n c ((wkbT t os).1 ++ rest)) := Hd (by
    have h := HY.out.below B2.out
    exact ⟨h.1, h.2.1, Nat.lt_of_lt_of_le h.2.2.1 (by omega), h.2.2.2⟩)
  clear b2 HB1 R1 HY
  go_wp2_with fail
  refine (Unmarshal_any HRT.out Y2.out A).mono ?_
  rintro e w3 ⟨q, T, a, rfl, h3, b3⟩
  have s3 := b3.size
  have GB := Hd ((B2.out.trans (b3.mono (by omega))).alloc (by omega) (.cells #[.int .i64 q, .iface T (.pointer (some ⟨a, 0, none⟩))] 68))
  have R3 := Hd ((R2.out.below b3 R2.out.lt).alloc (.cells #[.int .i64 q, .iface T (.pointer (some ⟨a, 0, none⟩))] 68))
  have NB := Hd (Blk.new w3 68 #[.int .i64 q, .iface T (.pointer (some ⟨a, 0, none⟩))])
  have H3 : Hid (GeoG (w3.alloc (.cells #[.int .i64 q, .iface T (.pointer (some ⟨a, 0, none⟩))] 68)) (fun b => W.heap.size + 1 ≤ b) [.int .i64 q, .iface T (.pointer (some ⟨a, 0, none⟩))] t) := Hd (GeoG.keeps _ _ _ _ _ _ h3 (fun b _ hl => Below.heap_alloc w3 _ b hl) (fun b hb hl => by omega))
  have hsa : (w3.alloc (.cells #[.int .i64 q, .iface T (.pointer (some ⟨a, 0, none⟩))] 68)).heap.size = w3.heap.size + 1 := World.size_alloc _ _
  clear b3 h3 B2 R2 Y2
  go_upto_region 2 with fail
  generalize (w3.alloc (.cells #[.int .i64 q, .iface T (.pointer (some ⟨a, 0, none⟩))] 68)) = w4 at *
  have n0 := NB.out.cell 0
  have n1 := NB.out.cell 1
  simp at n0 n1
  go_wp2_with fail
  refine (plain_G t.sz t (Nat.le_refl _) _ _ _ H3.out hs).mono ?_
  rintro e w5 ⟨cs, rfl, g5, b5⟩
  obtain ⟨yk, yd, yA, yK, yn, ym, yc, yc', rfl⟩ := g5.shape
  have B5 := Hd (GB.out.trans (b5.mono GB.out.size))
  have RB := Hd (R3.out.below b5 R3.out.lt)
  have G5 := Hd g5
  have v0 := RB.out.cell 0
  have v1 := RB.out.cell 1
  have v2 := RB.out.cell 2
  have v3 := RB.out.cell 3
  have z0 := RB.out.frozen 0
  have z1 := RB.out.frozen 1
  have z2 := RB.out.frozen 2
  have z3 := RB.out.frozen 3
  simp at v0 v1 v2 v3
  obtain ⟨f0, f1, f2, f3⟩ := cells_four RB.out (.int .i64 yk) (.int .i64 yd) (.slice yA yn yc) (.slice yK ym yc')
  clear b5 g5 R3 GB n0 n1
  go_wp2
  refine bodyPost_ret (by simp [results, Tryz.results24, go_sem, f0, f1, f2, f3]; try rfl) rfl ?_
  have hk : ∀ b, W.heap.size + 1 ≤ b → ((((w5.setCell ⟨W.heap.size, 0, none⟩ (.int .i64 yk)).setCell ⟨W.heap.size, 1, none⟩ (.int .i64 yd)).setCell ⟨W.heap.size, 2, none⟩ (.slice yA yn yc)).setCell ⟨W.heap.size, 3, none⟩ (.slice yK ym yc')).heap[b]? = w5.heap[b]? := fun b hb => by
    rw [Below.heap_setCell _ _ _ b (by show b ≠ W.heap.size; omega), Below.heap_setCell _ _ _ b (by show b ≠ W.heap.size; omega), Below.heap_setCell _ _ _ b (by show b ≠ W.heap.size; omega), Below.heap_setCell _ _ _ b (by show b ≠ W.heap.size; omega)]
  exact ⟨_, rfl, GmOn.keeps _ _ _ _ _ _ G5.out (fun b hb _ => hk b (by omega)) (fun b hb _ => by omega), below_setCell' (below_setCell' (below_setCell' (below_setCell' B5.out (Nat.le_refl _) _) (Nat.le_refl _) _) (Nat.le_refl _) _) (Nat.le_refl _) _⟩

end Go.Proofs.YtofdccmmagcamaaGreatDoor

/- The bytes of a geometry, written: spec.WriteWKBAs, spec.WriteWKB. -/
set_option maxHeartbeats 8000000
set_option linter.unusedSimpArgs false
set_option linter.unusedVariables false
namespace Go.Proofs.YtofdccmmagcamaaGreatDoor
open Go.RowKit

attribute [local go_sem] run_store_float

theorem geomW_all {D : Int} (d0 : 0 ≤ D) (d1 : D ≤ 3) {t : Gm} (hw : Wf D t) : GeomW t := by
  induction hw with
  | @pt ns hns =>
    intro W ok K Q k d A KA n m c c' g bs O os h hok hQ hB hO hl
    obtain ⟨_, _, _, _, _, _, e⟩ := gm_shape h
    simp only [List.cons.injEq, Value.int.injEq, true_and] at e
    obtain ⟨rfl, rfl, -⟩ := e
    have hn := h.numsOf.1
    rcases hns with rfl | hns
    · exact geom_pt0 (by rw [← hn]; rfl) d0 d1 h hok hQ hB hO hl
    · exact geom_pt1 (by rw [← hn, hns]; have := wd_pos' d; omega) hns d0 d1 h hok hQ hB hO hl
  | @ls ns hns =>
    intro W ok K Q k d A KA n m c c' g bs O os h hok hQ hB hO hl
    obtain ⟨_, _, _, _, _, _, e⟩ := gm_shape h
    simp only [List.cons.injEq, Value.int.injEq, true_and] at e
    obtain ⟨rfl, rfl, -⟩ := e
    exact geom_ls hns d0 d1 h hok hQ hB hO hl
  | @parts k ks hk hks hkk ih =>
    intro W ok K Q k' d A KA n m c c' g bs O os h hok hQ hB hO hl
    obtain ⟨_, _, _, _, _, _, e⟩ := gm_shape h
    simp only [List.cons.injEq, Value.int.injEq, true_and] at e
    obtain ⟨rfl, rfl, -⟩ := e
    by_cases h3 : k' = 3
    · subst h3
      exact geom_pg hks d0 d1 h hok hQ hB hO hl
    · exact geom_parts (by omega) hks ih d0 d1 h hok hQ hB hO hl

set_option maxRecDepth 100000 in
theorem WriteWKBAs_any {t : Gm} (hG : GeomW t) {W : World} {ok : Nat → Prop} {k d : Int} {A KA : Option Addr} {n m c c' : Nat} {O : Value} {os : List Bool} (h : GmOn W ok [.int .i64 k, .int .i64 d, .slice A n c, .slice KA m c'] t) (hO : Od W (fun b => b < W.heap.size) O os) (hs : 50 * t.np ≤ 10000000) :
    Calls Tryz.prog 26 #[.agg #[.int .i64 k, .int .i64 d, .slice A n c, .slice KA m c'], O] W fun e w' => ∃ v, e = .returned v ∧ w'.ownsRow 0 5 1 v (wkbT t os).1.length (bytesV (wkbT t os).1) ∧ (∀ b, v.ownBlock = some b → W.heap.size ≤ b) ∧ Below W.heap.size W w' := by
  have hb2 : Below W.heap.size W ((W.alloc (.cells #[.int .i64 k, .int .i64 d, .slice A n c, .slice KA m c'] 25)).alloc (.cells #[.slice none 0 0, O] 83)) := ((Below.refl _ _).alloc (Nat.le_refl _) _).alloc (by simp) _
  have p2 := (Blk.new W 25 #[.int .i64 k, .int .i64 d, .slice A n c, .slice KA m c']).alloc (.cells #[.slice none 0 0, O] 83)
  have r2 := Blk.new (W.alloc (.cells #[.int .i64 k, .int .i64 d, .slice A n c, .slice KA m c'] 25)) 83 #[.slice none 0 0, O]
  rw [World.size_alloc] at r2
  have hs2 : ((W.alloc (.cells #[.int .i64 k, .int .i64 d, .slice A n c, .slice KA m c'] 25)).alloc (.cells #[.slice none 0 0, O] 83)).heap.size = W.heap.size + 2 := by simp
  obtain ⟨oA, on, oc, rfl, ho⟩ := hO
  generalize hw2 : ((W.alloc (.cells #[.int .i64 k, .int .i64 d, .slice A n c, .slice KA m c'] 25)).alloc (.cells #[.slice none 0 0, .slice oA on oc] 83)) = w2 at *
  have h2 : GmOn w2 (fun b => b < W.heap.size) [.int .i64 k, .int .i64 d, .slice A n c, .slice KA m c'] t := GmOn.keeps _ _ _ _ _ _ h (fun b _ hl => hb2.block b hl) (fun b _ hl => hl)
  have hB2 : Bo w2 (W.heap.size + 1) (fun b => b < W.heap.size) [] (.slice oA on oc) := ⟨by omega, fun b hb => by omega, .slice none 0 0, r2, World.ownsRow_nil _ _ _ _, by simp [Value.ownBlock], fun b e => by simp [Value.ownBlock] at e⟩
  have hO2 : Od w2 (fun b => b < W.heap.size) (.slice oA on oc) os := Od.keep ⟨oA, on, oc, rfl, ho⟩ (Kp.of_below hb2 (fun b => b < W.heap.size)) (fun b hb => hb) (fun b hb => hb)
  have HG := Hd (hG w2 (fun b => b < W.heap.size) (fun b => b < W.heap.size) (fun b => b < W.heap.size) k d A KA n m c c' (W.heap.size + 1) [] (.slice oA on oc) os h2 (fun b hb _ => hb) (fun b hb => hb) hB2 hO2 (by simpa using hs))
  have HW2 := Hd hw2
  have HB2 := Hd hb2
  have p0 := p2.cell 0
  have p1 := p2.cell 1
  have p3 := p2.cell 2
  have p4 := p2.cell 3
  simp at p0 p1 p3 p4
  clear hw2 h2 hB2 hO2 hG h p2 r2 ho hb2
  go_enter Tryz.func26, Tryz.ntmps26
  go_upto_region 2 with fail
  rw [HW2.out]
  go_wp2_with fail
  refine HG.out.mono ?_
  rintro e w3 ⟨rfl, O', hb3, -, hk3⟩
  have hb := HB2.out.trans (hk3.below (B := W.heap.size) (fun b hb => hb) (by omega))
  obtain ⟨v, hx, hv, -, hvb⟩ := hb3.blk
  rw [List.nil_append] at hv
  obtain ⟨Av, nv, cv, rfl⟩ := own_sl hv
  have x0 := hx.cell 0
  simp at x0
  have HV := Hd hv
  have HVB := Hd hvb
  have HB := Hd hb
  clear hb3 hk3 hb hx hv hvb p0 p1 p3 p4
  go_wp2
  go_returns
  exact ⟨_, rfl, HV.out, fun b hb => by have := HVB.out b hb; omega, HB.out⟩

set_option maxRecDepth 100000 in
theorem WriteWKB_any {t : Gm} (hG : GeomW t) {W : World} {ok : Nat → Prop} {k d : Int} {A KA : Option Addr} {n m c c' : Nat} (h : GmOn W ok [.int .i64 k, .int .i64 d, .slice A n c, .slice KA m c'] t) (hs : 50 * t.np ≤ 10000000) :
    Calls Tryz.prog 23 #[.agg #[.int .i64 k, .int .i64 d, .slice A n c, .slice KA m c']] W fun e w' => ∃ v, e = .returned v ∧ w'.ownsRow 0 5 1 v (wkbT t []).1.length (bytesV (wkbT t []).1) ∧ (∀ b, v.ownBlock = some b → W.heap.size ≤ b) ∧ Below W.heap.size W w' := by
  have hb1 : Below W.heap.size W (W.alloc (.cells #[.int .i64 k, .int .i64 d, .slice A n c, .slice KA m c'] 25)) := (Below.refl _ _).alloc (Nat.le_refl _) _
  have h1 : GmOn (W.alloc (.cells #[.int .i64 k, .int .i64 d, .slice A n c, .slice KA m c'] 25)) (fun b => b < W.heap.size) [.int .i64 k, .int .i64 d, .slice A n c, .slice KA m c'] t := GmOn.keeps _ _ _ _ _ _ h (fun b _ hl => hb1.block b hl) (fun b _ hl => hl)
  have HC := Hd (WriteWKBAs_any hG h1 (O := .slice none 0 0) (os := []) ⟨none, 0, 0, rfl, rfl, Nat.le_refl _, fun h => absurd h (by omega)⟩ hs)
  have HB1 := Hd hb1
  clear h1 h hG hb1
  go_enter Tryz.func23, Tryz.ntmps23
  go_wp2_with fail
  refine HC.out.mono ?_
  rintro e w2 ⟨v, rfl, hv, hvb, b2⟩
  obtain ⟨Av, nv, cv, rfl⟩ := own_sl hv
  have HV := Hd hv
  have HVB := Hd hvb
  have HB := Hd (HB1.out.trans (b2.mono HB1.out.size))
  have hsz : W.heap.size ≤ (W.alloc (.cells #[.int .i64 k, .int .i64 d, .slice A n c, .slice KA m c'] 25)).heap.size := HB1.out.size
  clear hv hvb b2
  go_wp2
  go_returns
  exact ⟨_, rfl, HV.out, fun b hb => Nat.le_trans hsz (HVB.out b hb), HB.out⟩

end Go.Proofs.YtofdccmmagcamaaGreatDoor

/- What is known of the tree that New makes. -/
set_option maxHeartbeats 8000000
set_option linter.unusedSimpArgs false
set_option linter.unusedVariables false
namespace Go.Proofs.YtofdccmmagcamaaGreatDoor
open Go.RowKit

theorem numtB_at {w : World} {B : Nat} {v : Value} {t : Gm} (h : GmAt w B v t) : NumT t := by
  induction h with
  | mk en em hn hb hcap hk hs ih =>
    refine .mk hb (fun t ht => ?_)
    obtain ⟨q, hq, rfl⟩ := List.mem_iff_getElem.1 ht
    exact ih q _ (List.getElem?_eq_getElem hq)
theorem allP_pt {P : Nat → Bool} (P0 : P 0 = true) (q : Int) (ns : List Nat) (i : Nat) (h : ∀ b ∈ ns, P b = true) : P (ptN q ns i).1 = true ∧ P (ptN q ns i).2.1 = true ∧ P (ptN q ns i).2.2.1 = true ∧ P (ptN q ns i).2.2.2 = true := by
  have k : ∀ j, P (ns.getD j 0) = true := fun j => by
    rw [List.getD_eq_getElem?_getD]
    rcases Nat.lt_or_ge j ns.length with hj | hj
    · rw [List.getElem?_eq_getElem hj]; exact h _ (List.getElem_mem hj)
    · rw [List.getElem?_eq_none hj]; exact P0
  unfold ptN
  refine ⟨k _, k _, ?_, ?_⟩
  · show P (if _ then _ else _) = true
    split
    · exact k _
    · exact P0
  · show P (if _ then _ else _) = true
    split
    · exact k _
    · exact P0
theorem allP_pls {P : Nat → Bool} (P0 : P 0 = true) (dim q : Int) (ns : List Nat) (r : Nat) (h : ∀ b ∈ ns, P b = true) : ∀ b ∈ plsNums dim (ptsN q ns r), P b = true := by
  intro b hb
  unfold plsNums ptsN at hb
  obtain ⟨p, hp, hb⟩ := List.mem_flatMap.1 hb
  obtain ⟨i, _, rfl⟩ := List.mem_map.1 hp
  obtain ⟨h1, h2, h3, h4⟩ := allP_pt P0 q ns i h
  unfold plNums at hb
  simp only [List.mem_append, List.mem_cons, List.not_mem_nil, or_false] at hb
  rcases hb with (rfl | rfl) | hb | hb
  · exact h1
  · exact h2
  · split at hb <;> simp at hb; subst hb; exact h3
  · split at hb <;> simp at hb; subst hb; exact h4
theorem alln_force {P : Nat → Bool} (P0 : P 0 = true) (dim : Int) : ∀ t : Gm, AllN P t → AllN P (forceT dim t)
  | .mk k d ns ks => fun h => by
    cases h with
    | mk hb hk =>
      rw [forceT_mk]
      refine .mk (allP_pls P0 dim d ns _ hb) (fun t ht => ?_)
      obtain ⟨s, hs, rfl⟩ := List.mem_map.1 ht
      exact alln_force P0 dim s (hk s hs)
decreasing_by (have := List.sizeOf_lt_of_mem hs; simp; omega)
theorem alln_newT {P : Nat → Bool} (P0 : P 0 = true) : ∀ t : Gm, AllN P t → AllN P (newT t)
  | .mk k d ns ks => fun h => by
    cases h with
    | mk hb hk =>
      rw [newT_mk]
      split
      · exact .mk (fun b hb' => hb b (List.mem_of_mem_take hb')) (fun t ht => by cases ht)
      · unfold partsT
        split
        · exact .mk (fun b hb => by cases hb) (fun t ht => by cases ht)
        · refine alln_force P0 _ _ (.mk (fun b hb => by cases hb) (fun t ht => ?_))
          obtain ⟨hm, _⟩ := List.mem_filter.1 ht
          obtain ⟨s, hs, rfl⟩ := List.mem_map.1 hm
          exact alln_newT P0 s (hk s hs)
decreasing_by (have := List.sizeOf_lt_of_mem hs; simp; omega)
theorem numtB_force (dim : Int) : ∀ t : Gm, NumT t → NumT (forceT dim t)
  | .mk k d ns ks => fun h => by
    cases h with
    | mk hb hk =>
      rw [forceT_mk]
      refine .mk (plsNums_lt dim d ns _ hb) (fun t ht => ?_)
      obtain ⟨s, hs, rfl⟩ := List.mem_map.1 ht
      exact numtB_force dim s (hk s hs)
decreasing_by (have := List.sizeOf_lt_of_mem hs; simp; omega)
theorem numtB_newT : ∀ t : Gm, NumT t → NumT (newT t)
  | .mk k d ns ks => fun h => by
    cases h with
    | mk hb hk =>
      rw [newT_mk]
      split
      · exact .mk (fun b hb' => hb b (List.mem_of_mem_take hb')) (fun t ht => by cases ht)
      · unfold partsT
        split
        · exact .mk (fun b hb => by cases hb) (fun t ht => by cases ht)
        · refine numtB_force _ _ (.mk (fun b hb => by cases hb) (fun t ht => ?_))
          obtain ⟨hm, _⟩ := List.mem_filter.1 ht
          obtain ⟨s, hs, rfl⟩ := List.mem_map.1 hm
          exact numtB_newT s (hk s hs)
decreasing_by (have := List.sizeOf_lt_of_mem hs; simp; omega)
theorem szs_np : ∀ ts : List Gm, (∀ t ∈ ts, t.sz ≤ 5 * t.np) → Gm.szs ts ≤ 5 * (ts.map Gm.np).sum
  | [], _ => by simp [Gm.szs]
  | t :: ts, h => by
    have ih := szs_np ts (fun s hs => h s (List.mem_cons_of_mem _ hs))
    have h1 := h t (List.mem_cons_self ..)
    simp only [Gm.szs, List.map_cons, List.sum_cons]
    omega
theorem wf_sz {D : Int} (d0 : 0 ≤ D) (d1 : D ≤ 3) {t : Gm} (h : Wf D t) : t.sz ≤ 5 * t.np := by
  induction h with
  | @pt ns h =>
    rw [np_mk]
    unfold Gm.sz
    have h4 := wd_le4 D d0 d1
    have e : Gm.szs [] = 0 := rfl
    rw [e]
    rcases h with rfl | h
    · simp only [List.length_nil]
      generalize 0 / wd D = z
      omega
    · generalize ns.length / wd D = z
      omega
  | @ls ns h =>
    rw [np_mk]
    unfold Gm.sz
    have := nums_np d0 d1 ns.length h
    have e : Gm.szs [] = 0 := rfl
    rw [e]
    omega
  | @parts k ks hk hks hkk ih =>
    rw [np_mk]
    unfold Gm.sz
    have := szs_np ks ih
    simp only [List.length_nil]
    generalize 0 / wd D = z
    omega
theorem tree_facts {t : Gm} (hs : t.sz ≤ 2000) (hn : NumT t) (hnn : NoN t) : RunAt (newT t) ∧ GeomW (newT t) ∧ SameG (newT t) ∧ (newT t).np ≤ 2000 ∧ ∀ os, (wkbT (newT t) os).1.length ≤ 100000 := by
  obtain ⟨d0, d1, -⟩ := ok_newT t (by omega)
  have hw := wf_newT t (by omega)
  have hp := np_newT t (by omega)
  have hz := wf_sz d0 d1 hw
  exact ⟨run_all d0 d1 hw (numtB_newT t hn) (alln_newT (by decide +kernel) t hnn) (by omega), geomW_all d0 d1 hw, SameG_all _ (by omega), by omega, fun os => by have := wkb_len d0 d1 hw os; omega⟩

end Go.Proofs.YtofdccmmagcamaaGreatDoor

/- What the laws of bytes need: the bytes that a writer has made, ahead of a reader. -/
set_option maxHeartbeats 8000000
set_option linter.unusedSimpArgs false
set_option linter.unusedVariables false
namespace Go.Proofs.YtofdccmmagcamaaGreatDoor
open Go.RowKit

theorem by_of_own {w : World} {v : Value} {bs : List Int} (h : w.ownsRow 0 5 1 v bs.length (bytesV bs)) (hne : bs ≠ []) : ∃ g c, v = .slice (some ⟨g, 0, none⟩) bs.length c ∧ By w w.heap.size g 0 bs.length c bs := by
  rcases h.2 with ⟨_, hn⟩ | ⟨g, cap, cur, e, -, hgg, hnc, -, hcs, ht⟩
  · exact absurd (List.eq_nil_of_length_eq_zero hn) hne
  · refine ⟨g, cap, e, rfl, hnc, (Array.getElem?_eq_some_iff.1 hgg).1, fun j b hj => ?_⟩
    have hc := h.cells (g := g) (by rw [e]; rfl) j (.int .u8 b) (by unfold bytesV; rw [List.getElem?_map, hj]; rfl)
    have ad : (⟨g, 0, none⟩ : Addr).add j = ⟨g, j, none⟩ := by unfold Addr.add; split <;> simp_all
    rw [ad] at hc
    rwa [Nat.zero_add]
theorem Od.wider {W : World} {K Q : Nat → Prop} {O : Value} {os : List Bool} (h : Od W Q O os) (hq : ∀ b, Q b → K b) : Od W K O os := by
  obtain ⟨A, n, c, e, h1, h2, h3⟩ := h
  refine ⟨A, n, c, e, h1, h2, fun h0 => ?_⟩
  obtain ⟨g, o, e, hg, hc⟩ := h3 h0
  exact ⟨g, o, e, hq g hg, hc⟩
theorem SameG.use {t : Gm} (h : SameG t) {W : World} {ok1 ok2 : Nat → Prop} {k1 d1 k2 d2 : Int} {A1 K1 A2 K2 : Option Addr} {n1 m1 c1 e1 n2 m2 c2 e2 : Nat} (h1 : GmOn W ok1 [.int .i64 k1, .int .i64 d1, .slice A1 n1 c1, .slice K1 m1 e1] t) (h2 : GmOn W ok2 [.int .i64 k2, .int .i64 d2, .slice A2 n2 c2, .slice K2 m2 e2] t) :
    Calls Tryz.prog 25 #[.agg #[.int .i64 k1, .int .i64 d1, .slice A1 n1 c1, .slice K1 m1 e1], .agg #[.int .i64 k2, .int .i64 d2, .slice A2 n2 c2, .slice K2 m2 e2]] W fun e w' => e = .returned (.bool true) ∧ Below W.heap.size W w' := h _ _ _ _ _ _ _ _ _ _ _ _ _ _ _ _ _ _ _ h1 h2
theorem more_end {w w4 w5 w7 : World} {g0 nb : Nat} {v v1 : Value} {a bs : List Int} {T : TypeId} {cs : Array Value} (hnb : bs.length = nb) (hvb : ∀ b, v.ownBlock = some b → w4.heap.size ≤ b) (hb : Below w.heap.size w w5) (x : Blk w5 g0 T cs) (hg0 : w.heap.size ≤ w4.heap.size) (hgl : g0 < w4.heap.size)
    (hne : a ++ bs ≠ []) (ho : w7.ownsRow 0 5 1 v1 (a.length + nb) (bytesV a ++ bytesV bs)) (hg : w5.grownBy w7 v.ownBlock) :
    ∃ (g5 c5 : Nat), v1 = .slice (some ⟨g5, 0, none⟩) (a.length + nb) c5 ∧ By w7 w7.heap.size g5 0 (a.length + nb) c5 (a ++ bs) ∧ Below w.heap.size w w7 ∧ Blk w7 g0 T cs := by
  have e : bytesV a ++ bytesV bs = bytesV (a ++ bs) := by simp [bytesV]
  rw [e, ← hnb, ← List.length_append] at ho
  obtain ⟨g, c, e1, hy⟩ := by_of_own ho hne
  rw [List.length_append, hnb] at e1 hy
  exact ⟨g, c, e1, hy, below_grownBy hb hb.size hg (fun b hb => by have := hvb b hb; omega), x.grown hg (fun e => by have := hvb _ e.symm; omega)⟩
theorem wkbT_ne (t : Gm) (os : List Bool) (rest : List Int) : (wkbT t os).1 ++ rest ≠ [] := by
  cases t with
  | mk k d ns ks =>
    intro e
    have := congrArg List.length e
    rw [wkbT_mk] at this
    simp only [List.length_append, List.length_nil] at this
    split at this
    · simp only [List.length_append, List.length_cons, List.length_nil] at this; omega
    · split at this
      · simp only [List.length_append, List.length_cons, List.length_nil] at this; omega
      · split at this <;> (simp only [List.length_append, List.length_cons, List.length_nil] at this; omega)

end Go.Proofs.YtofdccmmagcamaaGreatDoor
