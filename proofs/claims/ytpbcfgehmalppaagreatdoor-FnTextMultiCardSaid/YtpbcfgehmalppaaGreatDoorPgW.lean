/- Texts as strings. -/
import Derived.Test.YtpbcfgehmalppaaGreatDoorPgV
import Derived.Test.YtpbcfgehmalppaaGreatDoorPgT
import Derived.Test.YtpbcfgehmalppaaGreatDoorPgH
namespace Go.Proofs.YtpbcfgehmalppaaGreatDoor
open Go.RowKit Go.Proofs.YtpbcfgehmalppaaGreatDoorW.PrintLast

attribute [local go_sem] run_store_float

theorem below_bf0 {w w' : World} {v : Value} {bs : List Int} (h : Bf w w' none v bs) : Below w.heap.size w w' := ⟨h.grown.os, h.grown.tape, h.grown.output, h.grown.size, fun i hi => h.grown.block i hi (by simp)⟩
theorem GmAt.vshape {w : World} {B : Nat} {v : Value} {t : Gm} (h : GmAt w B v t) : ∃ (k d : Int) (A K : Option Addr) (n m c c' : Nat), v = .agg #[.int .i64 k, .int .i64 d, .slice A n c, .slice K m c'] := by
  cases h
  exact ⟨_, _, _, _, _, _, _, _, rfl⟩
theorem kind_forceT (dim : Int) {t : Gm} (h : KindT t) : KindT (forceT dim t) := by
  induction h with
  | @mk k d ns ks h0 h1 hk ih =>
    rw [forceT_mk]
    refine .mk h0 h1 (fun t ht => ?_)
    obtain ⟨u, hu, rfl⟩ := List.mem_map.1 ht
    exact ih u hu
theorem kind_newT : ∀ t : Gm, KindT (newT t)
  | .mk k d ns ks => by
    have k0 : 0 ≤ kindN k ∧ kindN k ≤ 6 := by unfold kindN; split <;> omega
    have ih : ∀ t ∈ ks, KindT (newT t) := fun t ht => kind_newT t
    rw [newT_mk]
    split
    · exact .mk k0.1 k0.2 (by simp)
    · unfold partsT
      have hm : ∀ m ∈ (ks.map newT).filter (keepT (kindN k)), KindT m := fun m hm => by
        obtain ⟨u, hu, rfl⟩ := List.mem_map.1 (List.mem_filter.1 hm).1
        exact ih u hu
      split
      · exact .mk k0.1 k0.2 (by simp)
      · exact kind_forceT _ (.mk k0.1 k0.2 hm)
  termination_by t => SizeOf.sizeOf t
  decreasing_by (have := List.sizeOf_lt_of_mem ht; simp; omega)

set_option maxRecDepth 100000 in
theorem PgText_G {ok : Nat → Prop} {A : Option Addr} {n c : Nat} {q : Int} {t : Gm} (hi lo : Nat → Int) (w : World) (h : PgG w ok [.slice A n c, .int .u8 q] t) (ho : OkT t) (ht : FtTabs w hi lo) (hl : t.np ≤ 1000000) :
    Calls Tryz.prog 43 #[.agg #[.slice A n c, .int .u8 q]] w fun e w' => e = .returned (.string (strOfNums (wktT hi lo t))) ∧ Below w.heap.size w w' := by
  have hb1 : Below w.heap.size w (w.alloc (.cells #[.slice A n c, .int .u8 q] 63)) := (Below.refl _ _).alloc (Nat.le_refl _) _
  have hcall := PgWkt_G hi lo (w.alloc (.cells #[.slice A n c, .int .u8 q] 63)) (PgG.keeps _ _ _ ok _ _ h (fun b _ hl => hb1.block b hl) (fun b h _ => h)) ho (.slice none 0 0) [] (World.ownsRow_nil _ _ _ _) (ht.below hb1) (fun _ _ e => by cases e) (fun _ _ _ e => by cases e) (by rw [List.length_nil]; omega)
  have HC := Lib.hid hcall
  have HB1 := Lib.hid hb1
  clear hcall hb1 h ho ht
  go_enter Tryz.func43, Tryz.ntmps43
  go_wp2_with fail
  refine HC.out.mono ?_
  rintro e w1 ⟨v1, rfl, h1⟩
  rw [List.nil_append] at h1
  have hcv := own_string (P := Tryz.prog) (src := 30) (dst := 9) Tryz.underlying30 Tryz.underlying5 Tryz.underlying9 h1.own_
  have HB := Lib.hid (HB1.out.trans ((below_bf0 h1).mono HB1.out.size))
  clear h1
  go_wp2
  go_ret
  exact ⟨rfl, HB.out⟩

set_option maxRecDepth 100000 in
theorem PolygonWKT_G {w0 : World} {B : Nat} {v : Value} {t : Gm} (hi lo : Nat → Int) (h : GmAt w0 B v t) (hk : t.k = 3) (hs : t.sz ≤ 100000) (W : World) (hb : Below B w0 W) (hB : B ≤ W.heap.size) (ht : FtTabs W hi lo) :
    Calls Tryz.prog 17 #[v] W fun e w' => e = .returned (.string (strOfNums (wktT hi lo (newT t)))) ∧ Below W.heap.size W w' := by
  have hok := (ok_newT t hs).2.2
  have hnp := np_newT t hs
  have hmk : ∀ o : Obj, Calls Tryz.prog 37 #[v] (W.alloc o) fun e w' => ∃ (A : Option Addr) (n c : Nat) (q : Int), e = .returned (.agg #[.slice A n c, .int .u8 q]) ∧ PgG w' (fun b => (W.alloc o).heap.size ≤ b) [.slice A n c, .int .u8 q] (newT t) ∧ Below (W.alloc o).heap.size (W.alloc o) w' :=
    fun o => polygon_G h hk hs (W.alloc o) (hb.alloc hB o) (by simp; omega)
  obtain ⟨k, d, A, K, n, m, c, c', rfl⟩ := h.vshape
  have hb1 : Below W.heap.size W (W.alloc (.cells #[.int .i64 k, .int .i64 d, .slice A n c, .slice K m c'] 25)) := (Below.refl _ _).alloc (Nat.le_refl _) _
  have HM := Lib.hid (hmk (.cells #[.int .i64 k, .int .i64 d, .slice A n c, .slice K m c'] 25))
  have HT := Lib.hid (ht.below hb1)
  have HB1 := Lib.hid hb1
  have HO := Lib.hid hok
  clear hmk h hb ht hb1 hok
  generalize newT t = T at *
  go_enter Tryz.func17, Tryz.ntmps17
  go_wp2_with fail
  refine HM.out.mono ?_
  rintro e w1 ⟨A1, n1, c1, q1, rfl, h1, b1⟩
  have HTX := Lib.hid (PgText_G hi lo w1 h1 HO.out (HT.out.below b1) (by omega))
  have HB2 := Lib.hid (HB1.out.trans (b1.mono HB1.out.size))
  clear h1 b1
  go_wp2_with fail
  refine HTX.out.mono ?_
  rintro e w2 ⟨rfl, b2⟩
  have HB3 := Lib.hid (HB2.out.trans (b2.mono HB2.out.size))
  clear b2
  go_wp2
  go_ret
  exact ⟨rfl, HB3.out⟩

end Go.Proofs.YtpbcfgehmalppaaGreatDoor
