import Derived.Test.YtofdccmmagcamaaGreatDoorBxH
import Derived.Deep.Cut
/- The reference's writer of bytes: a geometry. -/
set_option maxHeartbeats 8000000
set_option linter.unusedSimpArgs false
set_option linter.unusedVariables false
namespace Go.Proofs.YtofdccmmagcamaaGreatDoor
open Go.RowKit Go.Proofs.YtofdccmmagcamaaGreatDoorW.PrintLast

attribute [local go_sem] run_store_float

/-- The orders that are left, in a block of K. -/
def Od (W : World) (K : Nat → Prop) (O : Value) (os : List Bool) : Prop := ∃ (A : Option Addr) (n c : Nat), O = .slice A n c ∧ os.length = n ∧ n ≤ c ∧ (0 < n → ∃ g o, A = some ⟨g, o, none⟩ ∧ K g ∧ ∀ (j : Nat) (b : Bool), os[j]? = some b → W.cell? ⟨g, o + j, none⟩ = some (.bool b))
theorem Od.keep {W W' : World} {K Q : Nat → Prop} {O : Value} {os : List Bool} (h : Od W Q O os) (hk : Kp W W' K) (hq : ∀ b, Q b → K b) (hl : ∀ b, K b → b < W.heap.size) : Od W' Q O os := by
  obtain ⟨A, n, c, rfl, h1, h2, h3⟩ := h
  refine ⟨A, n, c, rfl, h1, h2, fun h0 => ?_⟩
  obtain ⟨g, o, e, hg, hc⟩ := h3 h0
  exact ⟨g, o, e, hg, fun j b hj => (World.cell?_of_block (hk.keep g (hq g hg) (hl g (hq g hg)))).trans (hc j b hj)⟩
theorem Od.tail {W : World} {K : Nat → Prop} {g o n c : Nat} {b : Bool} {os : List Bool} (h1 : (b :: os).length = n) (h2 : n ≤ c) (hg : K g) (hc : ∀ (j : Nat) (x : Bool), (b :: os)[j]? = some x → W.cell? ⟨g, o + j, none⟩ = some (.bool x)) (o' : Nat) (ho : c = 1 ∨ o' = o + 1) : Od W K (.slice (some ⟨g, o', none⟩) (n - 1) (c - 1)) os := by
  simp only [List.length_cons] at h1
  refine ⟨some ⟨g, o', none⟩, n - 1, c - 1, rfl, by omega, by omega, fun h0 => ⟨g, o', rfl, hg, fun j x hj => ?_⟩⟩
  rcases ho with rfl | rfl
  · omega
  · have := hc (j + 1) x (by simpa using hj)
    rwa [show o + 1 + j = o + (j + 1) by omega]
theorem bo_orders {W : World} {g : Nat} {K : Nat → Prop} {bs : List Int} {O : Value} (O' : Value) (h : Bo W g K bs O) : Bo (W.setCell ⟨g, 1, none⟩ O') g K bs O' ∧ Kp W (W.setCell ⟨g, 1, none⟩ O') K := by
  obtain ⟨v, h1, h2, h3, h4⟩ := h.blk
  have hsz : (W.setCell ⟨g, 1, none⟩ O').heap.size = W.heap.size := by simp [World.setCell]
  refine ⟨⟨h.kg, fun b k => by rw [hsz]; exact h.ks b k, v, by simpa using h1.set_ 1 O', ?_, h3, h4⟩, ⟨rfl, rfl, rfl, by rw [hsz]; exact Nat.le_refl _, fun b k hl => Below.heap_setCell _ _ _ b (by show b ≠ g; intro e; subst e; exact h.kg k)⟩⟩
  refine ⟨h2.1, ?_⟩
  rcases h2.2 with hz | ⟨g', cap, cur, rfl, hb', hgg, rest⟩
  · exact .inl hz
  · refine .inr ⟨g', cap, cur, rfl, hb', ?_, rest⟩
    rw [Below.heap_setCell _ _ _ g' (by show g' ≠ g; intro e; subst e; exact h3 rfl)]
    exact hgg

/-- The world behind the first order's taking. -/
theorem head_world {W : World} {g : Nat} {K Q : Nat → Prop} {bs : List Int} {O O' : Value} {os : List Bool} {T : TypeId} {cs : Array Value} (hB : Bo W g K bs O) (hQ : ∀ b, Q b → K b) (hO : Od W Q O' os) :
    Bo (World.drew ((W.setCell ⟨g, 1, none⟩ O').alloc (.cells cs T))) g (fun b => K b ∨ b = W.heap.size) bs O' ∧ Kp W (World.drew ((W.setCell ⟨g, 1, none⟩ O').alloc (.cells cs T))) K ∧ Od (World.drew ((W.setCell ⟨g, 1, none⟩ O').alloc (.cells cs T))) Q O' os ∧ Blk (World.drew ((W.setCell ⟨g, 1, none⟩ O').alloc (.cells cs T))) W.heap.size T cs := by
  obtain ⟨h1, h2⟩ := bo_orders O' hB
  have hsz : (W.setCell ⟨g, 1, none⟩ O').heap.size = W.heap.size := by simp [World.setCell]
  have h3 := (h1.box (.cells cs T)).keep (Below.drew (Below.refl _ _))
  rw [hsz] at h3
  have h4 : Kp W (World.drew ((W.setCell ⟨g, 1, none⟩ O').alloc (.cells cs T))) K := h2.trans (Kp.of_below (Below.drew ((Below.refl _ _).alloc (Nat.le_refl _) _)) K)
  have h5 := Blk.drew (Blk.new (W.setCell ⟨g, 1, none⟩ O') T cs)
  rw [hsz] at h5
  exact ⟨h3, h4, hO.keep h4 hQ hB.ks, h5⟩
theorem head_none {W : World} {g : Nat} {K Q : Nat → Prop} {bs : List Int} {O : Value} {os : List Bool} {T : TypeId} {cs : Array Value} (hB : Bo W g K bs O) (hQ : ∀ b, Q b → K b) (hO : Od W Q O os) :
    Bo (W.alloc (.cells cs T)) g (fun b => K b ∨ b = W.heap.size) bs O ∧ Kp W (W.alloc (.cells cs T)) K ∧ Od (W.alloc (.cells cs T)) Q O os ∧ Blk (W.alloc (.cells cs T)) W.heap.size T cs := by
  have h4 : Kp W (W.alloc (.cells cs T)) K := Kp.of_below ((Below.refl _ _).alloc (Nat.le_refl _) _) K
  exact ⟨hB.box _, h4, hO.keep h4 hQ hB.ks, Blk.new W T cs⟩
theorem bo_one {W W1 : World} {g : Nat} {K : Nat → Prop} {v v1 O : Value} {L : List Int} {Y : Int} {o : Obj} (h : Bo W g K L O) (x : Blk W g 83 #[v, O])
    (ho : W1.ownsRow 0 5 1 v1 (L.length + 1) (bytesV L ++ [.int .u8 Y])) (hg : (W.alloc o).grownBy W1 v.ownBlock) (hp : v1.ownBlock = v.ownBlock ∨ v1.ownBlock = some (W.alloc o).heap.size) : Bo (W1.setCell ⟨g, 0, none⟩ v1) g K (L ++ [Y]) O ∧ Kp W (W1.setCell ⟨g, 0, none⟩ v1) K ∧ W1.frozen? ⟨g, 0, none⟩ = false ∧ W1.cell? ⟨g, 0, none⟩ = some v := by
  obtain ⟨u, k1, k2, k3, k4⟩ := h.blk
  have e1 := k1.cell 0
  have e2 := x.cell 0
  rw [e1] at e2
  simp at e2
  subst e2
  obtain ⟨a, b⟩ := bo_push h.kg h.ks x ((Below.refl W.heap.size W).alloc (Nat.le_refl _) o) k3 k4 ho hg hp
  have y := (x.alloc o).grown hg k3.symm
  exact ⟨a, b, y.frozen 0, by simpa using y.cell 0⟩
set_option maxRecDepth 100000 in
theorem wkbCode_any (k : Int) (w : World) : Calls Tryz.prog 112 #[.int .i64 k] w fun e w' => e = .returned (.int .i64 (codeK k)) ∧ w' = w := by
  unfold codeK
  by_cases h : k = 0
  · subst h
    go_enter Tryz.func112, Tryz.ntmps112
    go_wp2
    go_ret
    exact ⟨rfl, rfl⟩
  · rw [if_neg h]
    have hd : (k == 0) = false := by rw [beq_eq_false_iff_ne]; exact h
    go_enter Tryz.func112, Tryz.ntmps112
    go_wp2
    go_ret
    exact ⟨rfl, rfl⟩

/-- What the writing of t leaves. -/
def Gw (W w' : World) (g : Nat) (K Q : Nat → Prop) (bs : List Int) (t : Gm) (os : List Bool) : Prop := ∃ O', Bo w' g K (bs ++ (wkbT t os).1) O' ∧ Od w' Q O' (wkbT t os).2 ∧ Kp W w' K
theorem gw_leaf {W w' : World} {g : Nat} {K K' Q : Nat → Prop} {bs bs' : List Int} {t : Gm} {os os' : List Bool} {O : Value} (h : Bo w' g K' bs' O) (hK : ∀ b, K b → K' b) (ho : Od w' Q O os') (hk : Kp W w' K) (e1 : bs' = bs ++ (wkbT t os).1) (e2 : (wkbT t os).2 = os') : Gw W w' g K Q bs t os := by
  subst e1 e2
  exact ⟨O, h.less hK, ho, hk⟩
def GeomW (t : Gm) : Prop := ∀ (W : World) (ok K Q : Nat → Prop) (k d : Int) (A KA : Option Addr) (n m c c' g : Nat) (bs : List Int) (O : Value) (os : List Bool), GmOn W ok [.int .i64 k, .int .i64 d, .slice A n c, .slice KA m c'] t → (∀ b, ok b → b < W.heap.size → K b) → (∀ b, Q b → K b) → Bo W g K bs O → Od W Q O os → bs.length + 50 * t.np ≤ 10000000 →
  Calls Tryz.prog 47 #[.pointer (some ⟨g, 0, none⟩), .agg #[.int .i64 k, .int .i64 d, .slice A n c, .slice KA m c']] W fun e w' => e = .returned (.tuple #[]) ∧ Gw W w' g K Q bs t os
theorem wkbsT_snoc : ∀ (ts : List Gm) (t : Gm) (os : List Bool), wkbsT (ts ++ [t]) os = ((wkbsT ts os).1 ++ (wkbT t (wkbsT ts os).2).1, (wkbT t (wkbsT ts os).2).2)
  | [], t, os => by simp [wkbsT]
  | s :: ts, t, os => by
    have h := wkbsT_snoc ts t (wkbT s os).2
    show ((wkbT s os).1 ++ (wkbsT (ts ++ [t]) (wkbT s os).2).1, (wkbsT (ts ++ [t]) (wkbT s os).2).2) = _
    rw [h]
    simp [wkbsT]

theorem GmOn.numsOf {w : World} {ok : Nat → Prop} {k d : Int} {ns : List Nat} {ks : List Gm} {A KA : Option Addr} {n m c c' : Nat} (h : GmOn w ok [.int .i64 k, .int .i64 d, .slice A n c, .slice KA m c'] (.mk k d ns ks)) : ns.length = n ∧ (0 < n → ∃ g, A = some ⟨g, 0, none⟩ ∧ ok g ∧ ∀ j, j < n → w.cell? ⟨g, j, none⟩ = some (.float .f64 (ns.getD j 0))) ∧ ∀ b ∈ ns, b < 18446744073709551616 := by
  cases h with
  | mk en hn hb em ec el hk hs => exact ⟨en, hn, hb⟩
theorem GmOn.kidsOf {w : World} {ok : Nat → Prop} {k d : Int} {ns : List Nat} {ks : List Gm} {A KA : Option Addr} {n m c c' : Nat} (h : GmOn w ok [.int .i64 k, .int .i64 d, .slice A n c, .slice KA m c'] (.mk k d ns ks)) : ks.length = m ∧ ∀ (q : Nat) (t : Gm), ks[q]? = some t → ∃ (gK : Nat) (k' d' : Int) (A' K' : Option Addr) (n' m' c1 c2 : Nat), KA = some ⟨gK, 0, none⟩ ∧ ok gK ∧ gK < w.heap.size ∧ w.cell? ⟨gK, q * 4, none⟩ = some (.int .i64 k') ∧ w.cell? ⟨gK, q * 4 + 1, none⟩ = some (.int .i64 d') ∧ w.cell? ⟨gK, q * 4 + 2, none⟩ = some (.slice A' n' c1) ∧ w.cell? ⟨gK, q * 4 + 3, none⟩ = some (.slice K' m' c2) ∧ GmOn w ok [.int .i64 k', .int .i64 d', .slice A' n' c1, .slice K' m' c2] t := by
  cases h with
  | @mk _ _ _ _ _ _ _ _ _ _ css en hn hb em ec el hk hs =>
    refine ⟨em, fun q t ht => ?_⟩
    have hq : q < ks.length := (List.getElem?_eq_some_iff.1 ht).1
    have hx : css[q]? = some (css[q]'(by omega)) := List.getElem?_eq_getElem _
    generalize (css[q]'(by omega)) = x at hx
    have hg := hs q x t hx ht
    obtain ⟨k', d', A', K', n', m', c1, c2, rfl⟩ := hg.shape
    obtain ⟨gK, e, ho, hc⟩ := hk (by omega)
    obtain ⟨y0, y1, y2, y3⟩ := kid_cells el hc hx
    exact ⟨gK, k', d', A', K', n', m', c1, c2, e, ho, cell_lt y0, y0, y1, y2, y3, hg⟩
theorem gm_shape {w : World} {ok : Nat → Prop} {cs : List Value} {k d : Int} {ns : List Nat} {ks : List Gm} (h : GmOn w ok cs (.mk k d ns ks)) : ∃ (A KA : Option Addr) (n m c c' : Nat), cs = [.int .i64 k, .int .i64 d, .slice A n c, .slice KA m c'] := by
  cases h
  exact ⟨_, _, _, _, _, _, rfl⟩

/-- A line of well formed data. -/
theorem lineK {W : World} {ok K : Nat → Prop} {D k d : Int} {s : Gm} {A KA : Option Addr} {n m c c' g : Nat} {bs : List Int} {O : Value} (big : Bool) (d0 : 0 ≤ D) (d1 : D ≤ 3) (hw : Wf D s) (h : GmOn W ok [.int .i64 k, .int .i64 d, .slice A n c, .slice KA m c'] s) (hok : ∀ b, ok b → b < W.heap.size → K b) (hB : Bo W g K bs O) (hl : bs.length + 50 * s.np ≤ 10000000) :
    Calls Tryz.prog 114 #[.pointer (some ⟨g, 0, none⟩), .agg #[.int .i64 k, .int .i64 d, .slice A n c, .slice KA m c'], .bool big] W fun e w' => e = .returned (.tuple #[]) ∧ Bo w' g K (bs ++ lineB big s) O ∧ Kp W w' K := by
  have hs := wf_sd hw
  have hd := wf_d hw
  cases hs with
  | @mk k' ns ks' hl' hk' =>
    obtain ⟨A', KA', n', m', c1, c2, e⟩ := gm_shape h
    simp only [List.cons.injEq, Value.int.injEq, true_and] at e
    obtain ⟨e1, e2, -⟩ := e
    subst e1 e2
    rw [np_mk] at hl
    have h4 := nums_np d0 d1 ns.length hl'
    have en := h.numsOf.1
    exact lineW big d0 d1 h hok hB (by omega)

set_option maxRecDepth 100000 in
theorem geom_ls {W : World} {ok K Q : Nat → Prop} {d : Int} {ns : List Nat} {ks : List Gm} {A KA : Option Addr} {n m c c' g : Nat} {bs : List Int} {O : Value} {os : List Bool} (hlen : ns.length % wd d = 0) (d0 : 0 ≤ d) (d1 : d ≤ 3) (h : GmOn W ok [.int .i64 2, .int .i64 d, .slice A n c, .slice KA m c'] (.mk 2 d ns ks)) (hok : ∀ b, ok b → b < W.heap.size → K b) (hQ : ∀ b, Q b → K b) (hB : Bo W g K bs O) (hO : Od W Q O os) (hl : bs.length + 50 * (Gm.mk 2 d ns ks).np ≤ 10000000) :
    Calls Tryz.prog 47 #[.pointer (some ⟨g, 0, none⟩), .agg #[.int .i64 2, .int .i64 d, .slice A n c, .slice KA m c']] W fun e w' => e = .returned (.tuple #[]) ∧ Gw W w' g K Q bs (.mk 2 d ns ks) os := by
  obtain ⟨i0, hi0, hz0, hz1, hz2⟩ := info_parts info_u8
  have hck : 1 ≤ codeK 2 ∧ codeK 2 ≤ 7 := by decide
  obtain ⟨C, hC, hC1⟩ : ∃ C : Nat, codeK 2 + 1000 * d = (C : Int) ∧ C < 10000 := ⟨(codeK 2 + 1000 * d).toNat, by omega, by omega⟩
  have hm1 : IntKind.i64.wrap (1000 * d) = 1000 * d := by rw [IntKind.wrap_i64]; omega
  have hm2 : IntKind.i64.wrap (C : Int) = (C : Int) := by rw [IntKind.wrap_i64]; omega
  have hm3 : IntKind.u64.wrap (C : Int) = (C : Int) := by rw [IntKind.wrap_u64]; omega
  have HWC := Hd (wkbCode_any 2)
  have HC0 : Hid ((codeK 2 + 1000 * d).toNat = C) := Hd (by rw [hC]; rfl)
  have hnp := hl
  rw [np_mk] at hnp
  have HKS := Hd hB.ks
  have HG := Hd h
  have HOK := Hd hok
  have hgW := hB.lt
  have en : ns.length = n := by
    cases h with
    | mk en => exact en
  have hn4 := nums_np d0 d1 ns.length hlen
  clear h hok hl
  generalize hckk : codeK 2 = ck at *
  have HCK := Hd hckk
  clear hckk
  rcases os with _ | ⟨b, os⟩
  · obtain ⟨OA, on, oc, rfl, o1, o2, o3⟩ := hO
    obtain rfl : on = 0 := by simpa using o1.symm
    have HH := Hd (head_none (T := 25) (cs := #[.int .i64 2, .int .i64 d, .slice A n c, .slice KA m c']) hB hQ ⟨OA, 0, oc, rfl, o1, o2, o3⟩)
    obtain ⟨v0, x0, -⟩ := hB.blk
    have d1c : (W.alloc (.cells #[.int .i64 2, .int .i64 d, .slice A n c, .slice KA m c'] 25)).cell? ⟨g, 1, none⟩ = some (.slice OA 0 oc) := ((x0.alloc _).cell 1).trans rfl
    clear hB x0 o3 o1
    go_enter Tryz.func47, Tryz.ntmps47
    go_upto_region 7 with fail
    generalize (W.alloc (.cells #[.int .i64 2, .int .i64 d, .slice A n c, .slice KA m c'] 25)) = w3 at *
    obtain ⟨hb3, k3, od3, x3⟩ := HH.out
    obtain ⟨v, x1, w1, vn, vk⟩ := hb3.blk
    obtain ⟨VA, vl, vc, rfl⟩ := own_sl w1
    have e0 := x1.cell 0
    simp at e0
    have X1 := Hd x1
    have ROW := Hd w1
    have HB3 := Hd hb3
    have K3 := Hd k3
    have OD3 := Hd od3
    have X3 := Hd x3
    clear hb3 k3 od3 x3 x1 w1 vn vk HH d1c
    go_wp2_with (at_builtin; refine wpList_append_any _ rfl _ _ _ rfl 0 5 i0 (.int .u8 0) 1 1 Tryz.underlying28 hi0 hz0 hz1 hz2 rfl (by decide) _ bs.length (bytesV bs) rfl (ROW.out.alloc _) _ _ 1 _ [.int .u8 1] rfl (by exact reads_one rfl) (by simp [Value.oneCell']) (by simp only [maxLen]; omega) (by omega) (Nat.zero_le _) ?_; intro v1 W1 ho hg hp; obtain ⟨q1, q2, z1, z2⟩ := bo_one HB3.out X1.out ho hg hp; obtain ⟨Av, nv, cv, rfl⟩ := own_sl ho; have Q1 := Hd q1; have Q2 := Hd q2; clear ho hg hp q1 q2)
    generalize W1.setCell ⟨g, 0, none⟩ (.slice Av nv cv) = w4 at *
    have X5 : Hid (Blk (World.drew w4) W.heap.size 25 #[.int .i64 2, .int .i64 d, .slice A n c, .slice KA m c']) := Hd ((Q2.out.keep W.heap.size (.inr rfl) (HB3.out.ks _ (.inr rfl))).trans X3.out)
    have HU5 := Hd (fun big => uint_four big C (by omega) (Q1.out.keep (Below.drew (Below.refl _ _))) (by rw [List.length_append]; show _ + 1 ≤ _; omega))
    clear z1 z2 e0
    refine start_ (n := 11) (S := fun w' => w'.cell? ⟨W.heap.size, 0, none⟩ = some (.int .i64 2) ∧ w'.cell? ⟨W.heap.size, 1, none⟩ = some (.int .i64 d)) (ds := [10]) #[false, false, false, false, false, false, false, false, false, false, false] (by kernel_rfl) rfl rfl ⟨(X5.out.cell 0).trans rfl, (X5.out.cell 1).trans rfl⟩ (fun hHeld => ?_)
    refine pure_ (i := 0) (N := some 39) (v := ?_) (a' := ?_) #[true, false, false, false, false, false, false, false, false, false, false] rfl rfl (by kernel_rfl) (fun _ _ _ h => h) (Or.inl ⟨by rfl, ?_⟩) ?_ ?_
    rotate_left; (· intro w'; go_simp; with_reducible rfl); rotate_left; (· simp only [Act.put, sA, sB, sC]; rfl)
    refine pure_ (i := 1) (N := some 40) (v := ?_) (a' := ?_) #[true, true, false, false, false, false, false, false, false, false, false] rfl rfl (by kernel_rfl) (fun _ _ _ h => h) (Or.inl ⟨by rfl, ?_⟩) ?_ ?_
    rotate_left; (· intro w'; go_simp; with_reducible rfl); rotate_left; (· simp only [Act.put, sA, sB, sC]; rfl)
    refine pure_ (i := 4) (N := some 43) (v := ?_) (a' := ?_) #[true, true, false, false, true, false, false, false, false, false, false] rfl rfl (by kernel_rfl) (fun _ _ _ h => h) (Or.inl ⟨by rfl, ?_⟩) ?_ ?_
    rotate_left; (· intro w'; go_simp; with_reducible rfl); rotate_left; (· simp only [Act.put, sA, sB, sC]; rfl)
    refine pure_ (i := 9) (N := some 48) (v := ?_) (a' := ?_) #[true, true, false, false, true, false, false, false, false, true, false] rfl rfl (by kernel_rfl) (fun _ _ _ h => h) (Or.inl ⟨by rfl, ?_⟩) ?_ ?_
    rotate_left; (· intro w'; go_simp; with_reducible rfl); rotate_left; (· simp only [Act.put, sA, sB, sC]; rfl)
    refine take_ (i := 2) (N := some 41) (v := ?_) (a' := ?_) #[true, true, true, false, true, false, false, false, false, true, false] rfl rfl (by kernel_rfl) (fun _ _ _ h => h) (Or.inl ⟨by rfl, ?_⟩) hHeld ?_ ?_
    rotate_left; (· rintro w' ⟨s0, s1⟩; go_simp; with_reducible rfl); rotate_left; (· simp only [Act.put, sA, sB, sC]; rfl)
    refine take_ (i := 5) (N := some 44) (v := ?_) (a' := ?_) #[true, true, true, false, true, true, false, false, false, true, false] rfl rfl (by kernel_rfl) (fun _ _ _ h => h) (Or.inl ⟨by rfl, ?_⟩) hHeld ?_ ?_
    rotate_left; (· rintro w' ⟨s0, s1⟩; go_simp; with_reducible rfl); rotate_left; (· simp only [Act.put, sA, sB, sC]; rfl)
    refine pure_ (i := 6) (N := some 45) (v := ?_) (a' := ?_) #[true, true, true, false, true, true, true, false, false, true, false] rfl rfl (by kernel_rfl) (fun _ _ _ h => h) (Or.inl ⟨by rfl, ?_⟩) ?_ ?_
    rotate_left; (· intro w'; go_simp; with_reducible rfl); rotate_left; (· simp only [Act.put, sA, sB, sC]; rfl)
    refine one_ (i := 3) (N := some 42) #[true, true, true, true, true, true, true, false, false, true, false] rfl rfl (by kernel_rfl) (by decide) (fun K hK => ?_)
    refine goes_ Tryz.func112 (by kernel_rfl) rfl #[.int .i64 2] (by rfl) rfl rfl (by simp only [List.map_toArray, List.map_cons, List.map_nil]; rfl) ?_
    with_reducible refine (HWC.out _).mono ?_
    rintro e w9 ⟨rfl, rfl⟩
    refine ⟨_, rfl, ?_⟩
    refine hK.out _ _ ⟨(X5.out.cell 0).trans rfl, (X5.out.cell 1).trans rfl⟩ (fun hHeld => ?_)
    clear hK K
    refine norm_ (a' := ?_) ?_ ?_
    rotate_left
    · show Act.put _ (some 42) _ = _
      simp only [Act.put, sA, sB, sC]
      rfl
    refine pure_ (i := 7) (N := some 46) (v := ?_) (a' := ?_) #[true, true, true, true, true, true, true, true, false, true, false] rfl rfl (by kernel_rfl) (fun _ _ _ h => h) (Or.inl ⟨by rfl, ?_⟩) ?_ ?_
    rotate_left; (· intro w'; go_simp; with_reducible rfl); rotate_left; (· simp only [Act.put, sA, sB, sC]; rfl)
    refine pure_ (i := 8) (N := some 47) (v := ?_) (a' := ?_) #[true, true, true, true, true, true, true, true, true, true, false] rfl rfl (by kernel_rfl) (fun _ _ _ h => h) (Or.inl ⟨by rfl, ?_⟩) ?_ ?_
    rotate_left; (· intro w'; go_simp; with_reducible rfl); rotate_left; (· simp only [Act.put, sA, sB, sC]; rfl)
    refine last_ (i := 10) (N := some 49) #[true, true, true, true, true, true, true, true, true, true, true] rfl rfl (by kernel_rfl) (by decide) (fun K hK => ?_)
    refine goes_ Tryz.func111 (by kernel_rfl) rfl #[.pointer (some ⟨g, 0, none⟩), .int .u64 C, .int .i64 4, .bool _] (by rfl) rfl rfl (by simp only [List.map_toArray, List.map_cons, List.map_nil]; rfl) ?_
    with_reducible refine (HU5.out _).mono ?_
    rintro e w6 ⟨rfl, h6, k6⟩
    refine ⟨_, rfl, ?_⟩
    refine hK.out _ _ ?_
    clear hK K
    refine norm_ (a' := ?_) ?_ ?_
    rotate_left
    · show Act.put _ (some 49) _ = _
      simp only [Act.put, sA, sB, sC]
      rfl
    refine done_ (by kernel_rfl) ?_
    have X6 : Hid (Blk w6 W.heap.size 25 #[.int .i64 2, .int .i64 d, .slice A n c, .slice KA m c']) := Hd ((k6.keep W.heap.size (.inr rfl) (X5.out.lt)).trans X5.out)
    have K6 : Hid (Kp W w6 K) := Hd (K3.out.trans ((Q2.out.trans ((Kp.of_below (Below.drew (Below.refl _ _)) _).trans k6)).less (fun b h => .inl h)))
    have H6 := Hd h6
    have OD6 := Hd (OD3.out.keep (Q2.out.trans ((Kp.of_below (Below.drew (Below.refl _ _)) _).trans k6)) (fun b h => .inl (hQ b h)) HB3.out.ks)
    have G6 : Hid (GmOn w6 (fun b => K b ∨ b = W.heap.size) [.int .i64 2, .int .i64 d, .slice A n c, .slice KA m c'] (.mk 2 d ns ks)) := Hd (GmOn.keeps _ _ _ _ _ _ HG.out (fun b hb hl => K6.out.keep b (HOK.out b hb hl) hl) (fun b hb hl => .inl (HOK.out b hb hl)))
    have hf0 := X6.out.cell 0
    have hf1 := X6.out.cell 1
    have hf2 := X6.out.cell 2
    have hf3 := X6.out.cell 3
    simp at hf0 hf1 hf2 hf3
    clear h6 k6 X5 HU5 Q1 Q2 X1 X3 ROW OD3 K3
    have HL := Hd (lineW false d0 d1 G6.out (fun b h _ => h) H6.out (by simp only [List.length_append, List.length_cons, List.length_nil, uB_length]; omega))
    go_wp2_with fail
    refine HL.out.mono ?_
    rintro e w7 ⟨rfl, h7, k7⟩
    have H7 := Hd h7
    have K7 := Hd k7
    clear h7 k7
    go_wp2
    go_end0
    exact ⟨rfl, gw_leaf H7.out (fun b h => .inl h) (OD6.out.keep K7.out (fun b h => .inl (hQ b h)) H6.out.ks) (K6.out.trans (K7.out.less (fun b h => .inl h))) (by rw [wkbT_mk, HCK.out, HC0.out]; simp [List.append_assoc]) (by rw [wkbT_mk]; rfl)⟩
  · obtain ⟨OA, on, oc, rfl, o1, o2, o3⟩ := hO
    have hon : 0 < on := by simp at o1; omega
    obtain ⟨og, oo, rfl, og1, o4⟩ := o3 hon
    have hov := hB.ks og (hQ og og1)
    have hgt : decide ((0 : Int) < on) = true := decide_eq_true (by omega)
    have c0d : (World.drew (W.alloc (.cells #[.int .i64 2, .int .i64 d, .slice A n c, .slice KA m c'] 25))).cell? ⟨og, oo, none⟩ = some (.bool b) := (World.cell?_alloc_lt W _ ⟨og, oo, none⟩ hov).trans (o4 0 _ rfl)
    obtain ⟨v0, x0, -⟩ := hB.blk
    have d1c : (W.alloc (.cells #[.int .i64 2, .int .i64 d, .slice A n c, .slice KA m c'] 25)).cell? ⟨g, 1, none⟩ = some (.slice (some ⟨og, oo, none⟩) on oc) := ((x0.alloc _).cell 1).trans rfl
    have d1d : (World.drew (W.alloc (.cells #[.int .i64 2, .int .i64 d, .slice A n c, .slice KA m c'] 25))).cell? ⟨g, 1, none⟩ = some (.slice (some ⟨og, oo, none⟩) on oc) := d1c
    have z1d : (World.drew (W.alloc (.cells #[.int .i64 2, .int .i64 d, .slice A n c, .slice KA m c'] 25))).frozen? ⟨g, 1, none⟩ = false := (x0.alloc _).frozen 1
    by_cases hc1 : oc = 1
    · subst hc1
      obtain rfl : on = 1 := by omega
      have HH := Hd (head_world (T := 25) (cs := #[.int .i64 2, .int .i64 d, .slice A n c, .slice KA m c']) (O' := .slice (some ⟨og, oo, none⟩) 0 0) hB hQ (Od.tail o1 o2 og1 o4 oo (.inl rfl)))
      clear hB x0 o4 o3
      go_enter Tryz.func47, Tryz.ntmps47
      go_wp2_with fail
      go_region
      clear c0d d1d z1d
      cases b
      all_goals
        go_upto_region 7 with fail
        generalize (World.drew ((W.setCell ⟨g, 1, none⟩ (.slice (some ⟨og, oo, none⟩) 0 0)).alloc (.cells #[.int .i64 2, .int .i64 d, .slice A n c, .slice KA m c'] 25))) = w3 at *
        obtain ⟨hb3, k3, od3, x3⟩ := HH.out
        obtain ⟨v, x1, w1, vn, vk⟩ := hb3.blk
        obtain ⟨VA, vl, vc, rfl⟩ := own_sl w1
        have e0 := x1.cell 0
        simp at e0
        have X1 := Hd x1
        have ROW := Hd w1
        have HB3 := Hd hb3
        have K3 := Hd k3
        have OD3 := Hd od3
        have X3 := Hd x3
        clear hb3 k3 od3 x3 x1 w1 vn vk HH d1c
      focus
        go_wp2_with (at_builtin; refine wpList_append_any _ rfl _ _ _ rfl 0 5 i0 (.int .u8 0) 1 1 Tryz.underlying28 hi0 hz0 hz1 hz2 rfl (by decide) _ bs.length (bytesV bs) rfl (ROW.out.alloc _) _ _ 1 _ [.int .u8 1] rfl (by exact reads_one rfl) (by simp [Value.oneCell']) (by simp only [maxLen]; omega) (by omega) (Nat.zero_le _) ?_; intro v1 W1 ho hg hp; obtain ⟨q1, q2, z1, z2⟩ := bo_one HB3.out X1.out ho hg hp; obtain ⟨Av, nv, cv, rfl⟩ := own_sl ho; have Q1 := Hd q1; have Q2 := Hd q2; clear ho hg hp q1 q2)
      rotate_left
      focus
        go_wp2_with (at_builtin; refine wpList_append_any _ rfl _ _ _ rfl 0 5 i0 (.int .u8 0) 1 1 Tryz.underlying28 hi0 hz0 hz1 hz2 rfl (by decide) _ bs.length (bytesV bs) rfl (ROW.out.alloc _) _ _ 1 _ [.int .u8 0] rfl (by exact reads_one rfl) (by simp [Value.oneCell']) (by simp only [maxLen]; omega) (by omega) (Nat.zero_le _) ?_; intro v1 W1 ho hg hp; obtain ⟨q1, q2, z1, z2⟩ := bo_one HB3.out X1.out ho hg hp; obtain ⟨Av, nv, cv, rfl⟩ := own_sl ho; have Q1 := Hd q1; have Q2 := Hd q2; clear ho hg hp q1 q2)
      rotate_left
      all_goals
        generalize W1.setCell ⟨g, 0, none⟩ (.slice Av nv cv) = w4 at *
        have X5 : Hid (Blk (World.drew w4) W.heap.size 25 #[.int .i64 2, .int .i64 d, .slice A n c, .slice KA m c']) := Hd ((Q2.out.keep W.heap.size (.inr rfl) (HB3.out.ks _ (.inr rfl))).trans X3.out)
        have HU5 := Hd (fun big => uint_four big C (by omega) (Q1.out.keep (Below.drew (Below.refl _ _))) (by rw [List.length_append]; show _ + 1 ≤ _; omega))
        clear z1 z2 e0
        refine start_ (n := 11) (S := fun w' => w'.cell? ⟨W.heap.size, 0, none⟩ = some (.int .i64 2) ∧ w'.cell? ⟨W.heap.size, 1, none⟩ = some (.int .i64 d)) (ds := [10]) #[false, false, false, false, false, false, false, false, false, false, false] (by kernel_rfl) rfl rfl ⟨(X5.out.cell 0).trans rfl, (X5.out.cell 1).trans rfl⟩ (fun hHeld => ?_)
        refine pure_ (i := 0) (N := some 39) (v := ?_) (a' := ?_) #[true, false, false, false, false, false, false, false, false, false, false] rfl rfl (by kernel_rfl) (fun _ _ _ h => h) (Or.inl ⟨by rfl, ?_⟩) ?_ ?_
        rotate_left; (· intro w'; go_simp; with_reducible rfl); rotate_left; (· simp only [Act.put, sA, sB, sC]; rfl)
        refine pure_ (i := 1) (N := some 40) (v := ?_) (a' := ?_) #[true, true, false, false, false, false, false, false, false, false, false] rfl rfl (by kernel_rfl) (fun _ _ _ h => h) (Or.inl ⟨by rfl, ?_⟩) ?_ ?_
        rotate_left; (· intro w'; go_simp; with_reducible rfl); rotate_left; (· simp only [Act.put, sA, sB, sC]; rfl)
        refine pure_ (i := 4) (N := some 43) (v := ?_) (a' := ?_) #[true, true, false, false, true, false, false, false, false, false, false] rfl rfl (by kernel_rfl) (fun _ _ _ h => h) (Or.inl ⟨by rfl, ?_⟩) ?_ ?_
        rotate_left; (· intro w'; go_simp; with_reducible rfl); rotate_left; (· simp only [Act.put, sA, sB, sC]; rfl)
        refine pure_ (i := 9) (N := some 48) (v := ?_) (a' := ?_) #[true, true, false, false, true, false, false, false, false, true, false] rfl rfl (by kernel_rfl) (fun _ _ _ h => h) (Or.inl ⟨by rfl, ?_⟩) ?_ ?_
        rotate_left; (· intro w'; go_simp; with_reducible rfl); rotate_left; (· simp only [Act.put, sA, sB, sC]; rfl)
        refine take_ (i := 2) (N := some 41) (v := ?_) (a' := ?_) #[true, true, true, false, true, false, false, false, false, true, false] rfl rfl (by kernel_rfl) (fun _ _ _ h => h) (Or.inl ⟨by rfl, ?_⟩) hHeld ?_ ?_
        rotate_left; (· rintro w' ⟨s0, s1⟩; go_simp; with_reducible rfl); rotate_left; (· simp only [Act.put, sA, sB, sC]; rfl)
        refine take_ (i := 5) (N := some 44) (v := ?_) (a' := ?_) #[true, true, true, false, true, true, false, false, false, true, false] rfl rfl (by kernel_rfl) (fun _ _ _ h => h) (Or.inl ⟨by rfl, ?_⟩) hHeld ?_ ?_
        rotate_left; (· rintro w' ⟨s0, s1⟩; go_simp; with_reducible rfl); rotate_left; (· simp only [Act.put, sA, sB, sC]; rfl)
        refine pure_ (i := 6) (N := some 45) (v := ?_) (a' := ?_) #[true, true, true, false, true, true, true, false, false, true, false] rfl rfl (by kernel_rfl) (fun _ _ _ h => h) (Or.inl ⟨by rfl, ?_⟩) ?_ ?_
        rotate_left; (· intro w'; go_simp; with_reducible rfl); rotate_left; (· simp only [Act.put, sA, sB, sC]; rfl)
        refine one_ (i := 3) (N := some 42) #[true, true, true, true, true, true, true, false, false, true, false] rfl rfl (by kernel_rfl) (by decide) (fun K hK => ?_)
        refine goes_ Tryz.func112 (by kernel_rfl) rfl #[.int .i64 2] (by rfl) rfl rfl (by simp only [List.map_toArray, List.map_cons, List.map_nil]; rfl) ?_
        with_reducible refine (HWC.out _).mono ?_
        rintro e w9 ⟨rfl, rfl⟩
        refine ⟨_, rfl, ?_⟩
        refine hK.out _ _ ⟨(X5.out.cell 0).trans rfl, (X5.out.cell 1).trans rfl⟩ (fun hHeld => ?_)
        clear hK K
        refine norm_ (a' := ?_) ?_ ?_
        rotate_left
        · show Act.put _ (some 42) _ = _
          simp only [Act.put, sA, sB, sC]
          rfl
        refine pure_ (i := 7) (N := some 46) (v := ?_) (a' := ?_) #[true, true, true, true, true, true, true, true, false, true, false] rfl rfl (by kernel_rfl) (fun _ _ _ h => h) (Or.inl ⟨by rfl, ?_⟩) ?_ ?_
        rotate_left; (· intro w'; go_simp; with_reducible rfl); rotate_left; (· simp only [Act.put, sA, sB, sC]; rfl)
        refine pure_ (i := 8) (N := some 47) (v := ?_) (a' := ?_) #[true, true, true, true, true, true, true, true, true, true, false] rfl rfl (by kernel_rfl) (fun _ _ _ h => h) (Or.inl ⟨by rfl, ?_⟩) ?_ ?_
        rotate_left; (· intro w'; go_simp; with_reducible rfl); rotate_left; (· simp only [Act.put, sA, sB, sC]; rfl)
        refine last_ (i := 10) (N := some 49) #[true, true, true, true, true, true, true, true, true, true, true] rfl rfl (by kernel_rfl) (by decide) (fun K hK => ?_)
        refine goes_ Tryz.func111 (by kernel_rfl) rfl #[.pointer (some ⟨g, 0, none⟩), .int .u64 C, .int .i64 4, .bool _] (by rfl) rfl rfl (by simp only [List.map_toArray, List.map_cons, List.map_nil]; rfl) ?_
        with_reducible refine (HU5.out _).mono ?_
        rintro e w6 ⟨rfl, h6, k6⟩
        refine ⟨_, rfl, ?_⟩
        refine hK.out _ _ ?_
        clear hK K
        refine norm_ (a' := ?_) ?_ ?_
        rotate_left
        · show Act.put _ (some 49) _ = _
          simp only [Act.put, sA, sB, sC]
          rfl
        refine done_ (by kernel_rfl) ?_
        have X6 : Hid (Blk w6 W.heap.size 25 #[.int .i64 2, .int .i64 d, .slice A n c, .slice KA m c']) := Hd ((k6.keep W.heap.size (.inr rfl) (X5.out.lt)).trans X5.out)
        have K6 : Hid (Kp W w6 K) := Hd (K3.out.trans ((Q2.out.trans ((Kp.of_below (Below.drew (Below.refl _ _)) _).trans k6)).less (fun b h => .inl h)))
        have H6 := Hd h6
        have OD6 := Hd (OD3.out.keep (Q2.out.trans ((Kp.of_below (Below.drew (Below.refl _ _)) _).trans k6)) (fun b h => .inl (hQ b h)) HB3.out.ks)
        have G6 : Hid (GmOn w6 (fun b => K b ∨ b = W.heap.size) [.int .i64 2, .int .i64 d, .slice A n c, .slice KA m c'] (.mk 2 d ns ks)) := Hd (GmOn.keeps _ _ _ _ _ _ HG.out (fun b hb hl => K6.out.keep b (HOK.out b hb hl) hl) (fun b hb hl => .inl (HOK.out b hb hl)))
        have hf0 := X6.out.cell 0
        have hf1 := X6.out.cell 1
        have hf2 := X6.out.cell 2
        have hf3 := X6.out.cell 3
        simp at hf0 hf1 hf2 hf3
        clear h6 k6 X5 HU5 Q1 Q2 X1 X3 ROW OD3 K3
      focus
        have HL := Hd (lineW false d0 d1 G6.out (fun b h _ => h) H6.out (by simp only [List.length_append, List.length_cons, List.length_nil, uB_length]; omega))
      rotate_left
      focus
        have HL := Hd (lineW true d0 d1 G6.out (fun b h _ => h) H6.out (by simp only [List.length_append, List.length_cons, List.length_nil, uB_length]; omega))
      rotate_left
      all_goals
        go_wp2_with fail
        refine HL.out.mono ?_
        rintro e w7 ⟨rfl, h7, k7⟩
        have H7 := Hd h7
        have K7 := Hd k7
        clear h7 k7
        go_wp2
        go_end0
        exact ⟨rfl, gw_leaf H7.out (fun b h => .inl h) (OD6.out.keep K7.out (fun b h => .inl (hQ b h)) H6.out.ks) (K6.out.trans (K7.out.less (fun b h => .inl h))) (by rw [wkbT_mk, HCK.out, HC0.out]; simp [List.append_assoc]) (by rw [wkbT_mk]; rfl)⟩
    · have HH := Hd (head_world (T := 25) (cs := #[.int .i64 2, .int .i64 d, .slice A n c, .slice KA m c']) (O' := .slice (some ⟨og, oo + 1, none⟩) (on - 1) (oc - 1)) hB hQ (Od.tail o1 o2 og1 o4 (oo + 1) (.inr rfl)))
      clear hB x0 o4 o3
      go_enter Tryz.func47, Tryz.ntmps47
      go_wp2_with fail
      go_region
      clear c0d d1d z1d
      cases b
      all_goals
        go_upto_region 7 with fail
        generalize (World.drew ((W.setCell ⟨g, 1, none⟩ (.slice (some ⟨og, oo + 1, none⟩) (on - 1) (oc - 1))).alloc (.cells #[.int .i64 2, .int .i64 d, .slice A n c, .slice KA m c'] 25))) = w3 at *
        obtain ⟨hb3, k3, od3, x3⟩ := HH.out
        obtain ⟨v, x1, w1, vn, vk⟩ := hb3.blk
        obtain ⟨VA, vl, vc, rfl⟩ := own_sl w1
        have e0 := x1.cell 0
        simp at e0
        have X1 := Hd x1
        have ROW := Hd w1
        have HB3 := Hd hb3
        have K3 := Hd k3
        have OD3 := Hd od3
        have X3 := Hd x3
        clear hb3 k3 od3 x3 x1 w1 vn vk HH d1c
      focus
        go_wp2_with (at_builtin; refine wpList_append_any _ rfl _ _ _ rfl 0 5 i0 (.int .u8 0) 1 1 Tryz.underlying28 hi0 hz0 hz1 hz2 rfl (by decide) _ bs.length (bytesV bs) rfl (ROW.out.alloc _) _ _ 1 _ [.int .u8 1] rfl (by exact reads_one rfl) (by simp [Value.oneCell']) (by simp only [maxLen]; omega) (by omega) (Nat.zero_le _) ?_; intro v1 W1 ho hg hp; obtain ⟨q1, q2, z1, z2⟩ := bo_one HB3.out X1.out ho hg hp; obtain ⟨Av, nv, cv, rfl⟩ := own_sl ho; have Q1 := Hd q1; have Q2 := Hd q2; clear ho hg hp q1 q2)
      rotate_left
      focus
        go_wp2_with (at_builtin; refine wpList_append_any _ rfl _ _ _ rfl 0 5 i0 (.int .u8 0) 1 1 Tryz.underlying28 hi0 hz0 hz1 hz2 rfl (by decide) _ bs.length (bytesV bs) rfl (ROW.out.alloc _) _ _ 1 _ [.int .u8 0] rfl (by exact reads_one rfl) (by simp [Value.oneCell']) (by simp only [maxLen]; omega) (by omega) (Nat.zero_le _) ?_; intro v1 W1 ho hg hp; obtain ⟨q1, q2, z1, z2⟩ := bo_one HB3.out X1.out ho hg hp; obtain ⟨Av, nv, cv, rfl⟩ := own_sl ho; have Q1 := Hd q1; have Q2 := Hd q2; clear ho hg hp q1 q2)
      rotate_left
      all_goals
        generalize W1.setCell ⟨g, 0, none⟩ (.slice Av nv cv) = w4 at *
        have X5 : Hid (Blk (World.drew w4) W.heap.size 25 #[.int .i64 2, .int .i64 d, .slice A n c, .slice KA m c']) := Hd ((Q2.out.keep W.heap.size (.inr rfl) (HB3.out.ks _ (.inr rfl))).trans X3.out)
        have HU5 := Hd (fun big => uint_four big C (by omega) (Q1.out.keep (Below.drew (Below.refl _ _))) (by rw [List.length_append]; show _ + 1 ≤ _; omega))
        clear z1 z2 e0
        refine start_ (n := 11) (S := fun w' => w'.cell? ⟨W.heap.size, 0, none⟩ = some (.int .i64 2) ∧ w'.cell? ⟨W.heap.size, 1, none⟩ = some (.int .i64 d)) (ds := [10]) #[false, false, false, false, false, false, false, false, false, false, false] (by kernel_rfl) rfl rfl ⟨(X5.out.cell 0).trans rfl, (X5.out.cell 1).trans rfl⟩ (fun hHeld => ?_)
        refine pure_ (i := 0) (N := some 39) (v := ?_) (a' := ?_) #[true, false, false, false, false, false, false, false, false, false, false] rfl rfl (by kernel_rfl) (fun _ _ _ h => h) (Or.inl ⟨by rfl, ?_⟩) ?_ ?_
        rotate_left; (· intro w'; go_simp; with_reducible rfl); rotate_left; (· simp only [Act.put, sA, sB, sC]; rfl)
        refine pure_ (i := 1) (N := some 40) (v := ?_) (a' := ?_) #[true, true, false, false, false, false, false, false, false, false, false] rfl rfl (by kernel_rfl) (fun _ _ _ h => h) (Or.inl ⟨by rfl, ?_⟩) ?_ ?_
        rotate_left; (· intro w'; go_simp; with_reducible rfl); rotate_left; (· simp only [Act.put, sA, sB, sC]; rfl)
        refine pure_ (i := 4) (N := some 43) (v := ?_) (a' := ?_) #[true, true, false, false, true, false, false, false, false, false, false] rfl rfl (by kernel_rfl) (fun _ _ _ h => h) (Or.inl ⟨by rfl, ?_⟩) ?_ ?_
        rotate_left; (· intro w'; go_simp; with_reducible rfl); rotate_left; (· simp only [Act.put, sA, sB, sC]; rfl)
        refine pure_ (i := 9) (N := some 48) (v := ?_) (a' := ?_) #[true, true, false, false, true, false, false, false, false, true, false] rfl rfl (by kernel_rfl) (fun _ _ _ h => h) (Or.inl ⟨by rfl, ?_⟩) ?_ ?_
        rotate_left; (· intro w'; go_simp; with_reducible rfl); rotate_left; (· simp only [Act.put, sA, sB, sC]; rfl)
        refine take_ (i := 2) (N := some 41) (v := ?_) (a' := ?_) #[true, true, true, false, true, false, false, false, false, true, false] rfl rfl (by kernel_rfl) (fun _ _ _ h => h) (Or.inl ⟨by rfl, ?_⟩) hHeld ?_ ?_
        rotate_left; (· rintro w' ⟨s0, s1⟩; go_simp; with_reducible rfl); rotate_left; (· simp only [Act.put, sA, sB, sC]; rfl)
        refine take_ (i := 5) (N := some 44) (v := ?_) (a' := ?_) #[true, true, true, false, true, true, false, false, false, true, false] rfl rfl (by kernel_rfl) (fun _ _ _ h => h) (Or.inl ⟨by rfl, ?_⟩) hHeld ?_ ?_
        rotate_left; (· rintro w' ⟨s0, s1⟩; go_simp; with_reducible rfl); rotate_left; (· simp only [Act.put, sA, sB, sC]; rfl)
        refine pure_ (i := 6) (N := some 45) (v := ?_) (a' := ?_) #[true, true, true, false, true, true, true, false, false, true, false] rfl rfl (by kernel_rfl) (fun _ _ _ h => h) (Or.inl ⟨by rfl, ?_⟩) ?_ ?_
        rotate_left; (· intro w'; go_simp; with_reducible rfl); rotate_left; (· simp only [Act.put, sA, sB, sC]; rfl)
        refine one_ (i := 3) (N := some 42) #[true, true, true, true, true, true, true, false, false, true, false] rfl rfl (by kernel_rfl) (by decide) (fun K hK => ?_)
        refine goes_ Tryz.func112 (by kernel_rfl) rfl #[.int .i64 2] (by rfl) rfl rfl (by simp only [List.map_toArray, List.map_cons, List.map_nil]; rfl) ?_
        with_reducible refine (HWC.out _).mono ?_
        rintro e w9 ⟨rfl, rfl⟩
        refine ⟨_, rfl, ?_⟩
        refine hK.out _ _ ⟨(X5.out.cell 0).trans rfl, (X5.out.cell 1).trans rfl⟩ (fun hHeld => ?_)
        clear hK K
        refine norm_ (a' := ?_) ?_ ?_
        rotate_left
        · show Act.put _ (some 42) _ = _
          simp only [Act.put, sA, sB, sC]
          rfl
        refine pure_ (i := 7) (N := some 46) (v := ?_) (a' := ?_) #[true, true, true, true, true, true, true, true, false, true, false] rfl rfl (by kernel_rfl) (fun _ _ _ h => h) (Or.inl ⟨by rfl, ?_⟩) ?_ ?_
        rotate_left; (· intro w'; go_simp; with_reducible rfl); rotate_left; (· simp only [Act.put, sA, sB, sC]; rfl)
        refine pure_ (i := 8) (N := some 47) (v := ?_) (a' := ?_) #[true, true, true, true, true, true, true, true, true, true, false] rfl rfl (by kernel_rfl) (fun _ _ _ h => h) (Or.inl ⟨by rfl, ?_⟩) ?_ ?_
        rotate_left; (· intro w'; go_simp; with_reducible rfl); rotate_left; (· simp only [Act.put, sA, sB, sC]; rfl)
        refine last_ (i := 10) (N := some 49) #[true, true, true, true, true, true, true, true, true, true, true] rfl rfl (by kernel_rfl) (by decide) (fun K hK => ?_)
        refine goes_ Tryz.func111 (by kernel_rfl) rfl #[.pointer (some ⟨g, 0, none⟩), .int .u64 C, .int .i64 4, .bool _] (by rfl) rfl rfl (by simp only [List.map_toArray, List.map_cons, List.map_nil]; rfl) ?_
        with_reducible refine (HU5.out _).mono ?_
        rintro e w6 ⟨rfl, h6, k6⟩
        refine ⟨_, rfl, ?_⟩
        refine hK.out _ _ ?_
        clear hK K
        refine norm_ (a' := ?_) ?_ ?_
        rotate_left
        · show Act.put _ (some 49) _ = _
          simp only [Act.put, sA, sB, sC]
          rfl
        refine done_ (by kernel_rfl) ?_
        have X6 : Hid (Blk w6 W.heap.size 25 #[.int .i64 2, .int .i64 d, .slice A n c, .slice KA m c']) := Hd ((k6.keep W.heap.size (.inr rfl) (X5.out.lt)).trans X5.out)
        have K6 : Hid (Kp W w6 K) := Hd (K3.out.trans ((Q2.out.trans ((Kp.of_below (Below.drew (Below.refl _ _)) _).trans k6)).less (fun b h => .inl h)))
        have H6 := Hd h6
        have OD6 := Hd (OD3.out.keep (Q2.out.trans ((Kp.of_below (Below.drew (Below.refl _ _)) _).trans k6)) (fun b h => .inl (hQ b h)) HB3.out.ks)
        have G6 : Hid (GmOn w6 (fun b => K b ∨ b = W.heap.size) [.int .i64 2, .int .i64 d, .slice A n c, .slice KA m c'] (.mk 2 d ns ks)) := Hd (GmOn.keeps _ _ _ _ _ _ HG.out (fun b hb hl => K6.out.keep b (HOK.out b hb hl) hl) (fun b hb hl => .inl (HOK.out b hb hl)))
        have hf0 := X6.out.cell 0
        have hf1 := X6.out.cell 1
        have hf2 := X6.out.cell 2
        have hf3 := X6.out.cell 3
        simp at hf0 hf1 hf2 hf3
        clear h6 k6 X5 HU5 Q1 Q2 X1 X3 ROW OD3 K3
      focus
        have HL := Hd (lineW false d0 d1 G6.out (fun b h _ => h) H6.out (by simp only [List.length_append, List.length_cons, List.length_nil, uB_length]; omega))
      rotate_left
      focus
        have HL := Hd (lineW true d0 d1 G6.out (fun b h _ => h) H6.out (by simp only [List.length_append, List.length_cons, List.length_nil, uB_length]; omega))
      rotate_left
      all_goals
        go_wp2_with fail
        refine HL.out.mono ?_
        rintro e w7 ⟨rfl, h7, k7⟩
        have H7 := Hd h7
        have K7 := Hd k7
        clear h7 k7
        go_wp2
        go_end0
        exact ⟨rfl, gw_leaf H7.out (fun b h => .inl h) (OD6.out.keep K7.out (fun b h => .inl (hQ b h)) H6.out.ks) (K6.out.trans (K7.out.less (fun b h => .inl h))) (by rw [wkbT_mk, HCK.out, HC0.out]; simp [List.append_assoc]) (by rw [wkbT_mk]; rfl)⟩
end Go.Proofs.YtofdccmmagcamaaGreatDoor
