import Derived.Test.YtofdccmmagcamaaGreatDoorBxJ
import Derived.Test.YtofdccmmagcamaaGreatDoorMhH
/- The reference's writer of bytes: parts. -/
set_option maxHeartbeats 8000000
set_option linter.unusedSimpArgs false
set_option linter.unusedVariables false
namespace Go.Proofs.YtofdccmmagcamaaGreatDoor
open Go.RowKit Go.Proofs.YtofdccmmagcamaaGreatDoorW.PrintLast

attribute [local go_sem] run_store_float

set_option maxRecDepth 100000 in
theorem geom_parts {W : World} {ok K Q : Nat → Prop} {d : Int} {ns : List Nat} {ks : List Gm} {A KA : Option Addr} {n m c c' g : Nat} {bs : List Int} {O : Value} {os : List Bool} {k : Int} (hk : k = 0 ∨ k = 4 ∨ k = 5 ∨ k = 6) (hW : ∀ t ∈ ks, Wf d t) (ih : ∀ t ∈ ks, GeomW t) (d0 : 0 ≤ d) (d1 : d ≤ 3) (h : GmOn W ok [.int .i64 k, .int .i64 d, .slice A n c, .slice KA m c'] (.mk k d ns ks)) (hok : ∀ b, ok b → b < W.heap.size → K b) (hQ : ∀ b, Q b → K b) (hB : Bo W g K bs O) (hO : Od W Q O os) (hl : bs.length + 50 * (Gm.mk k d ns ks).np ≤ 10000000) :
    Calls Tryz.prog 47 #[.pointer (some ⟨g, 0, none⟩), .agg #[.int .i64 k, .int .i64 d, .slice A n c, .slice KA m c']] W fun e w' => e = .returned (.tuple #[]) ∧ Gw W w' g K Q bs (.mk k d ns ks) os := by
  obtain ⟨i0, hi0, hz0, hz1, hz2⟩ := info_parts info_u8
  have hck : 1 ≤ codeK k ∧ codeK k ≤ 7 := by (unfold codeK; split <;> omega)
  obtain ⟨C, hC, hC1⟩ : ∃ C : Nat, codeK k + 1000 * d = (C : Int) ∧ C < 10000 := ⟨(codeK k + 1000 * d).toNat, by omega, by omega⟩
  have hm1 : IntKind.i64.wrap (1000 * d) = 1000 * d := by rw [IntKind.wrap_i64]; omega
  have hm2 : IntKind.i64.wrap (C : Int) = (C : Int) := by rw [IntKind.wrap_i64]; omega
  have hm3 : IntKind.u64.wrap (C : Int) = (C : Int) := by rw [IntKind.wrap_u64]; omega
  have HWC := Hd (wkbCode_any k)
  have HC0 : Hid ((codeK k + 1000 * d).toNat = C) := Hd (by rw [hC]; rfl)
  have hnp := hl
  rw [np_mk] at hnp
  have HKS := Hd hB.ks
  have HG := Hd h
  have HOK := Hd hok
  have hgW := hB.lt
  have HWF := Hd hW
  have HI := Hd ih
  have f1 : (k == 1) = false := by rw [beq_eq_false_iff_ne]; omega
  have f2 : (k == 2) = false := by rw [beq_eq_false_iff_ne]; omega
  have f3 : (k == 3) = false := by rw [beq_eq_false_iff_ne]; omega
  have f4 : ¬ k = 1 := by omega
  have f5 : ¬ k = 2 := by omega
  have f6 : ¬ k = 3 := by omega
  generalize ns.length / wd d = nd0 at hnp
  have hkm := h.kidsOf.1
  have hsl : ∀ ts : List Gm, ts.length ≤ (ts.map Gm.np).sum := fun ts => by
    induction ts with
    | nil => simp
    | cons t ts ih =>
      have h1 : 1 ≤ t.np := by cases t; rw [np_mk, Nat.add_assoc]; exact Nat.le_add_right _ _
      simp only [List.length_cons, List.map_cons, List.sum_cons]
      omega
  have hsl2 := hsl ks
  have hmb : m ≤ 10000000 := by omega
  have HKM := Hd hkm
  have hmw : IntKind.u64.wrap (m : Int) = (m : Int) := by rw [IntKind.wrap_u64]; omega
  clear hkm hsl
  clear h hok hl
  generalize hckk : codeK k = ck at *
  have HCK := Hd hckk
  clear hckk
  rcases os with _ | ⟨b, os⟩
  · obtain ⟨OA, on, oc, rfl, o1, o2, o3⟩ := hO
    obtain rfl : on = 0 := by simpa using o1.symm
    have HH := Hd (head_none (T := 25) (cs := #[.int .i64 k, .int .i64 d, .slice A n c, .slice KA m c']) hB hQ ⟨OA, 0, oc, rfl, o1, o2, o3⟩)
    obtain ⟨v0, x0, -⟩ := hB.blk
    have d1c : (W.alloc (.cells #[.int .i64 k, .int .i64 d, .slice A n c, .slice KA m c'] 25)).cell? ⟨g, 1, none⟩ = some (.slice OA 0 oc) := ((x0.alloc _).cell 1).trans rfl
    clear hB x0 o3 o1
    go_enter Tryz.func47, Tryz.ntmps47
    go_upto_region 7 with fail
    generalize (W.alloc (.cells #[.int .i64 k, .int .i64 d, .slice A n c, .slice KA m c'] 25)) = w3 at *
    obtain ⟨hb3, k3, od3, x3⟩ := HH.out
    obtain ⟨v, x1, w1, vn, vk⟩ := hb3.blk
    obtain ⟨VA, vl, vc, rfl⟩ := own_sl w1
    have e0 := x1.cell 0
    simp at e0
    have X1 := Hd x1
    have ROW := Hd w1
    have HB3 := Hd hb3
    have K3 := Hd k3
    have OD3 := Hd od3
    have X3 := Hd x3
    clear hb3 k3 od3 x3 x1 w1 vn vk HH d1c
    go_wp2_with (at_builtin; refine wpList_append_any _ rfl _ _ _ rfl 0 5 i0 (.int .u8 0) 1 1 Tryz.underlying28 hi0 hz0 hz1 hz2 rfl (by decide) _ bs.length (bytesV bs) rfl (ROW.out.alloc _) _ _ 1 _ [.int .u8 1] rfl (by exact reads_one rfl) (by simp [Value.oneCell']) (by simp only [maxLen]; omega) (by omega) (Nat.zero_le _) ?_; intro v1 W1 ho hg hp; obtain ⟨q1, q2, z1, z2⟩ := bo_one HB3.out X1.out ho hg hp; obtain ⟨Av, nv, cv, rfl⟩ := own_sl ho; have Q1 := Hd q1; have Q2 := Hd q2; clear ho hg hp q1 q2)
    generalize W1.setCell ⟨g, 0, none⟩ (.slice Av nv cv) = w4 at *
    have X5 : Hid (Blk (World.drew w4) W.heap.size 25 #[.int .i64 k, .int .i64 d, .slice A n c, .slice KA m c']) := Hd ((Q2.out.keep W.heap.size (.inr rfl) (HB3.out.ks _ (.inr rfl))).trans X3.out)
    have HU5 := Hd (fun big => uint_four big C (by omega) (Q1.out.keep (Below.drew (Below.refl _ _))) (by rw [List.length_append]; show _ + 1 ≤ _; omega))
    clear z1 z2 e0
    refine start_ (n := 11) (S := fun w' => w'.cell? ⟨W.heap.size, 0, none⟩ = some (.int .i64 k) ∧ w'.cell? ⟨W.heap.size, 1, none⟩ = some (.int .i64 d)) (ds := [10]) #[false, false, false, false, false, false, false, false, false, false, false] (by kernel_rfl) rfl rfl ⟨(X5.out.cell 0).trans rfl, (X5.out.cell 1).trans rfl⟩ (fun hHeld => ?_)
    refine pure_ (i := 0) (N := some 39) (v := ?_) (a' := ?_) #[true, false, false, false, false, false, false, false, false, false, false] rfl rfl (by kernel_rfl) (fun _ _ _ h => h) (Or.inl ⟨by rfl, ?_⟩) ?_ ?_
    rotate_left; (· intro w'; go_simp; with_reducible rfl); rotate_left; (· simp only [Act.put, sA, sB, sC]; rfl)
    refine pure_ (i := 1) (N := some 40) (v := ?_) (a' := ?_) #[true, true, false, false, false, false, false, false, false, false, false] rfl rfl (by kernel_rfl) (fun _ _ _ h => h) (Or.inl ⟨by rfl, ?_⟩) ?_ ?_
    rotate_left; (· intro w'; go_simp; with_reducible rfl); rotate_left; (· simp only [Act.put, sA, sB, sC]; rfl)
    refine pure_ (i := 4) (N := some 43) (v := ?_) (a' := ?_) #[true, true, false, false, true, false, false, false, false, false, false] rfl rfl (by kernel_rfl) (fun _ _ _ h => h) (Or.inl ⟨by rfl, ?_⟩) ?_ ?_
    rotate_left; (· intro w'; go_simp; with_reducible rfl); rotate_left; (· simp only [Act.put, sA, sB, sC]; rfl)
    refine pure_ (i := 9) (N := some 48) (v := ?_) (a' := ?_) #[true, true, false, false, true, false, false, false, false, true, false] rfl rfl (by kernel_rfl) (fun _ _ _ h => h) (Or.inl ⟨by rfl, ?_⟩) ?_ ?_
    rotate_left; (· intro w'; go_simp; with_reducible rfl); rotate_left; (· simp only [Act.put, sA, sB, sC]; rfl)
    refine take_ (i := 2) (N := some 41) (v := ?_) (a' := ?_) #[true, true, true, false, true, false, false, false, false, true, false] rfl rfl (by kernel_rfl) (fun _ _ _ h => h) (Or.inl ⟨by rfl, ?_⟩) hHeld ?_ ?_
    rotate_left; (· rintro w' ⟨s0, s1⟩; go_simp; with_reducible rfl); rotate_left; (· simp only [Act.put, sA, sB, sC]; rfl)
    refine take_ (i := 5) (N := some 44) (v := ?_) (a' := ?_) #[true, true, true, false, true, true, false, false, false, true, false] rfl rfl (by kernel_rfl) (fun _ _ _ h => h) (Or.inl ⟨by rfl, ?_⟩) hHeld ?_ ?_
    rotate_left; (· rintro w' ⟨s0, s1⟩; go_simp; with_reducible rfl); rotate_left; (· simp only [Act.put, sA, sB, sC]; rfl)
    refine pure_ (i := 6) (N := some 45) (v := ?_) (a' := ?_) #[true, true, true, false, true, true, true, false, false, true, false] rfl rfl (by kernel_rfl) (fun _ _ _ h => h) (Or.inl ⟨by rfl, ?_⟩) ?_ ?_
    rotate_left; (· intro w'; go_simp; with_reducible rfl); rotate_left; (· simp only [Act.put, sA, sB, sC]; rfl)
    refine one_ (i := 3) (N := some 42) #[true, true, true, true, true, true, true, false, false, true, false] rfl rfl (by kernel_rfl) (by decide) (fun K hK => ?_)
    refine goes_ Tryz.func112 (by kernel_rfl) rfl #[.int .i64 k] (by rfl) rfl rfl (by simp only [List.map_toArray, List.map_cons, List.map_nil]; rfl) ?_
    with_reducible refine (HWC.out _).mono ?_
    rintro e w9 ⟨rfl, rfl⟩
    refine ⟨_, rfl, ?_⟩
    refine hK.out _ _ ⟨(X5.out.cell 0).trans rfl, (X5.out.cell 1).trans rfl⟩ (fun hHeld => ?_)
    clear hK K
    refine norm_ (a' := ?_) ?_ ?_
    rotate_left
    · show Act.put _ (some 42) _ = _
      simp only [Act.put, sA, sB, sC]
      rfl
    refine pure_ (i := 7) (N := some 46) (v := ?_) (a' := ?_) #[true, true, true, true, true, true, true, true, false, true, false] rfl rfl (by kernel_rfl) (fun _ _ _ h => h) (Or.inl ⟨by rfl, ?_⟩) ?_ ?_
    rotate_left; (· intro w'; go_simp; with_reducible rfl); rotate_left; (· simp only [Act.put, sA, sB, sC]; rfl)
    refine pure_ (i := 8) (N := some 47) (v := ?_) (a' := ?_) #[true, true, true, true, true, true, true, true, true, true, false] rfl rfl (by kernel_rfl) (fun _ _ _ h => h) (Or.inl ⟨by rfl, ?_⟩) ?_ ?_
    rotate_left; (· intro w'; go_simp; with_reducible rfl); rotate_left; (· simp only [Act.put, sA, sB, sC]; rfl)
    refine last_ (i := 10) (N := some 49) #[true, true, true, true, true, true, true, true, true, true, true] rfl rfl (by kernel_rfl) (by decide) (fun K hK => ?_)
    refine goes_ Tryz.func111 (by kernel_rfl) rfl #[.pointer (some ⟨g, 0, none⟩), .int .u64 C, .int .i64 4, .bool _] (by rfl) rfl rfl (by simp only [List.map_toArray, List.map_cons, List.map_nil]; rfl) ?_
    with_reducible refine (HU5.out _).mono ?_
    rintro e w6 ⟨rfl, h6, k6⟩
    refine ⟨_, rfl, ?_⟩
    refine hK.out _ _ ?_
    clear hK K
    refine norm_ (a' := ?_) ?_ ?_
    rotate_left
    · show Act.put _ (some 49) _ = _
      simp only [Act.put, sA, sB, sC]
      rfl
    refine done_ (by kernel_rfl) ?_
    have X6 : Hid (Blk w6 W.heap.size 25 #[.int .i64 k, .int .i64 d, .slice A n c, .slice KA m c']) := Hd ((k6.keep W.heap.size (.inr rfl) (X5.out.lt)).trans X5.out)
    have K6 : Hid (Kp W w6 K) := Hd (K3.out.trans ((Q2.out.trans ((Kp.of_below (Below.drew (Below.refl _ _)) _).trans k6)).less (fun b h => .inl h)))
    have H6 := Hd h6
    have OD6 := Hd (OD3.out.keep (Q2.out.trans ((Kp.of_below (Below.drew (Below.refl _ _)) _).trans k6)) (fun b h => .inl (hQ b h)) HB3.out.ks)
    have G6 : Hid (GmOn w6 (fun b => K b ∨ b = W.heap.size) [.int .i64 k, .int .i64 d, .slice A n c, .slice KA m c'] (.mk k d ns ks)) := Hd (GmOn.keeps _ _ _ _ _ _ HG.out (fun b hb hl => K6.out.keep b (HOK.out b hb hl) hl) (fun b hb hl => .inl (HOK.out b hb hl)))
    have hf0 := X6.out.cell 0
    have hf1 := X6.out.cell 1
    have hf2 := X6.out.cell 2
    have hf3 := X6.out.cell 3
    simp at hf0 hf1 hf2 hf3
    clear h6 k6 X5 HU5 Q1 Q2 X1 X3 ROW OD3 K3
    have HUm := Hd (uint_four false m (by have := HKM.out; omega) H6.out (by simp only [List.length_append, List.length_cons, List.length_nil, uB_length]; omega))
    go_wp2_with fail
    refine HUm.out.mono ?_
    rintro e w7 ⟨rfl, h7, k7⟩
    have G7 : Hid (GmOn w7 (fun b => K b ∨ b = W.heap.size) [.int .i64 k, .int .i64 d, .slice A n c, .slice KA m c'] (.mk k d ns ks)) := Hd (GmOn.keeps _ _ _ _ _ _ G6.out (fun b hb hl => k7.keep b hb hl) (fun b hb hl => hb))
    have X7 : Hid (Blk w7 W.heap.size 25 #[.int .i64 k, .int .i64 d, .slice A n c, .slice KA m c']) := Hd ((k7.keep W.heap.size (.inr rfl) (X6.out.lt)).trans X6.out)
    have OD7 := Hd (OD6.out.keep k7 (fun b h => .inl (hQ b h)) H6.out.ks)
    have K67 := Hd (K6.out.trans (k7.less (fun b h => .inl h)))
    have H7 := Hd h7
    have hg3 := X7.out.cell 3
    simp at hg3
    clear h7 k7 G6 OD6 K6 HUm hf0 hf1 hf2 hf3
    go_wp2
    go_loopw [60] (fun i wr => ∃ (q : Nat) (Oq : Value), q ≤ m ∧ i = .int .i64 q ∧ Bo wr g (fun b => K b ∨ b = W.heap.size) (bs ++ [1] ++ uB false 4 C ++ uB false 4 m ++ (wkbsT (ks.take q) []).1) Oq ∧ Od wr Q Oq (wkbsT (ks.take q) []).2 ∧ Kp w7 wr (fun b => K b ∨ b = W.heap.size)) (fun i _ => m - (intOf i).toNat)
    case atStart => exact ⟨0, (.slice OA 0 oc), Nat.zero_le _, rfl, by simpa [wkbsT] using H7.out, by simpa [wkbsT] using OD7.out, Kp.refl _ _⟩
    case round =>
      obtain ⟨q, Oq, hq, rfl, h8, o8, k8⟩ := hrel
      by_cases hlt : q < m
      · have htq : ks[q]? = some (ks[q]'(by rw [HKM.out]; exact hlt)) := List.getElem?_eq_getElem _
        have htm : (ks[q]'(by rw [HKM.out]; exact hlt)) ∈ ks := List.getElem_mem _
        generalize (ks[q]'(by rw [HKM.out]; exact hlt)) = s at htq htm
        obtain ⟨gK, sk, sd, sA, sK, sn, sm, sc, sc', rfl, hgK, hgl, y0, y1, y2, y3, gs⟩ := G7.out.kidsOf.2 q s htq
        have hk8 := k8.keep gK hgK hgl
        have z0 := (World.cell?_of_block (a := ⟨gK, q * 4, none⟩) hk8).trans y0
        have z1 := (World.cell?_of_block (a := ⟨gK, q * 4 + 1, none⟩) hk8).trans y1
        have z2 := (World.cell?_of_block (a := ⟨gK, q * 4 + 2, none⟩) hk8).trans y2
        have z3 := (World.cell?_of_block (a := ⟨gK, q * 4 + 3, none⟩) hk8).trans y3
        have x8 : Blk wr W.heap.size 25 #[.int .i64 k, .int .i64 d, .slice A n c, .slice (some ⟨gK, 0, none⟩) m c'] := (k8.keep W.heap.size (.inr rfl) (X7.out.lt)).trans X7.out
        have hws := x8.lt
        have b0 := x8.cell 0
        simp at b0
        have hsp := sum_snoc_take htq
        have HTK : Hid (ks.take (q + 1) = ks.take q ++ [s]) := Hd (by rw [List.take_add_one, htq]; rfl)
        have hwl := wkbs_len (ks.take q) [] (fun t ht os => wkb_len d0 d1 (HWF.out t (List.mem_of_mem_take ht)) os)
        have gs8 : GmOn (wr.alloc (.cells #[.int .i64 sk, .int .i64 sd, .slice sA sn sc, .slice sK sm sc'] 25)) (fun b => K b ∨ b = W.heap.size) [.int .i64 sk, .int .i64 sd, .slice sA sn sc, .slice sK sm sc'] s := GmOn.keeps _ _ _ _ _ _ gs (fun b hb hl => (Below.heap_alloc wr _ b (Nat.lt_of_lt_of_le hl k8.size)).trans (k8.keep b hb hl)) (fun b hb _ => hb)
        have ha8 : Below wr.heap.size wr (wr.alloc (.cells #[.int .i64 sk, .int .i64 sd, .slice sA sn sc, .slice sK sm sc'] 25)) := (Below.refl _ _).alloc (Nat.le_refl _) _
        have hb8 := h8.keep ha8
        have ho8 := o8.keep (Kp.of_below ha8 _) (fun b h => .inl (hQ b h)) h8.ks
        have HA8 := Hd (Kp.of_below ha8 (fun b => K b ∨ b = W.heap.size))
        have HCALL := Hd (HI.out s htm _ _ (fun b => K b ∨ b = W.heap.size) Q _ _ _ _ _ _ _ _ g _ _ _ gs8 (fun b h _ => h) (fun b h => .inl (hQ b h)) hb8 ho8 (by simp only [List.length_append, List.length_cons, List.length_nil, uB_length]; omega))
        have K8 := Hd k8
        have KS8 := Hd h8.ks
        have O8 := Hd o8
        clear h8 o8 k8 hk8 y0 y1 y2 y3 gs x8 gs8 ha8 hb8 ho8 htq hg3
        go_wp2_with fail
        refine HCALL.out.mono ?_
        rintro e w10 ⟨rfl, O', h10, o10, k10⟩
        have H10 := Hd h10
        have O10 := Hd o10
        have K10 := Hd k10
        clear h10 o10 k10
        go_wp2
        go_roundw
        case rel =>
          exact ⟨q + 1, O', by omega, by go_num, by rw [HTK.out, wkbsT_snoc, ← List.append_assoc]; exact H10.out, by rw [HTK.out, wkbsT_snoc]; exact O10.out, K8.out.trans (HA8.out.trans K10.out)⟩
        case measure => simp [intOf]; omega
      · obtain rfl : m = q := by omega
        rw [List.take_of_length_le (by rw [HKM.out]; exact Nat.le_refl _)] at h8 o8
        have H8 := Hd h8
        have O8 := Hd o8
        have K8 := Hd k8
        clear h8 o8 k8 hg3
        go_wp2
        go_end0
        exact ⟨rfl, gw_leaf H8.out (fun b h => .inl h) O8.out (K67.out.trans (K8.out.less (fun b h => .inl h))) (by rw [wkbT_mk, HCK.out, HC0.out, ← HKM.out]; simp [List.append_assoc, f4, f5, f6]) (by rw [wkbT_mk]; simp only [f4, f5, f6, if_false]; rfl)⟩
  · obtain ⟨OA, on, oc, rfl, o1, o2, o3⟩ := hO
    have hon : 0 < on := by simp at o1; omega
    obtain ⟨og, oo, rfl, og1, o4⟩ := o3 hon
    have hov := hB.ks og (hQ og og1)
    have hgt : decide ((0 : Int) < on) = true := decide_eq_true (by omega)
    have c0d : (World.drew (W.alloc (.cells #[.int .i64 k, .int .i64 d, .slice A n c, .slice KA m c'] 25))).cell? ⟨og, oo, none⟩ = some (.bool b) := (World.cell?_alloc_lt W _ ⟨og, oo, none⟩ hov).trans (o4 0 _ rfl)
    obtain ⟨v0, x0, -⟩ := hB.blk
    have d1c : (W.alloc (.cells #[.int .i64 k, .int .i64 d, .slice A n c, .slice KA m c'] 25)).cell? ⟨g, 1, none⟩ = some (.slice (some ⟨og, oo, none⟩) on oc) := ((x0.alloc _).cell 1).trans rfl
    have d1d : (World.drew (W.alloc (.cells #[.int .i64 k, .int .i64 d, .slice A n c, .slice KA m c'] 25))).cell? ⟨g, 1, none⟩ = some (.slice (some ⟨og, oo, none⟩) on oc) := d1c
    have z1d : (World.drew (W.alloc (.cells #[.int .i64 k, .int .i64 d, .slice A n c, .slice KA m c'] 25))).frozen? ⟨g, 1, none⟩ = false := (x0.alloc _).frozen 1
    by_cases hc1 : oc = 1
    · subst hc1
      obtain rfl : on = 1 := by omega
      have HH := Hd (head_world (T := 25) (cs := #[.int .i64 k, .int .i64 d, .slice A n c, .slice KA m c']) (O' := .slice (some ⟨og, oo, none⟩) 0 0) hB hQ (Od.tail o1 o2 og1 o4 oo (.inl rfl)))
      clear hB x0 o4 o3
      go_enter Tryz.func47, Tryz.ntmps47
      go_wp2_with fail
      go_region
      clear c0d d1d z1d
      cases b
      all_goals
        go_upto_region 7 with fail
        generalize (World.drew ((W.setCell ⟨g, 1, none⟩ (.slice (some ⟨og, oo, none⟩) 0 0)).alloc (.cells #[.int .i64 k, .int .i64 d, .slice A n c, .slice KA m c'] 25))) = w3 at *
        obtain ⟨hb3, k3, od3, x3⟩ := HH.out
        obtain ⟨v, x1, w1, vn, vk⟩ := hb3.blk
        obtain ⟨VA, vl, vc, rfl⟩ := own_sl w1
        have e0 := x1.cell 0
        simp at e0
        have X1 := Hd x1
        have ROW := Hd w1
        have HB3 := Hd hb3
        have K3 := Hd k3
        have OD3 := Hd od3
        have X3 := Hd x3
        clear hb3 k3 od3 x3 x1 w1 vn vk HH d1c
      focus
        go_wp2_with (at_builtin; refine wpList_append_any _ rfl _ _ _ rfl 0 5 i0 (.int .u8 0) 1 1 Tryz.underlying28 hi0 hz0 hz1 hz2 rfl (by decide) _ bs.length (bytesV bs) rfl (ROW.out.alloc _) _ _ 1 _ [.int .u8 1] rfl (by exact reads_one rfl) (by simp [Value.oneCell']) (by simp only [maxLen]; omega) (by omega) (Nat.zero_le _) ?_; intro v1 W1 ho hg hp; obtain ⟨q1, q2, z1, z2⟩ := bo_one HB3.out X1.out ho hg hp; obtain ⟨Av, nv, cv, rfl⟩ := own_sl ho; have Q1 := Hd q1; have Q2 := Hd q2; clear ho hg hp q1 q2)
      rotate_left
      focus
        go_wp2_with (at_builtin; refine wpList_append_any _ rfl _ _ _ rfl 0 5 i0 (.int .u8 0) 1 1 Tryz.underlying28 hi0 hz0 hz1 hz2 rfl (by decide) _ bs.length (bytesV bs) rfl (ROW.out.alloc _) _ _ 1 _ [.int .u8 0] rfl (by exact reads_one rfl) (by simp [Value.oneCell']) (by simp only [maxLen]; omega) (by omega) (Nat.zero_le _) ?_; intro v1 W1 ho hg hp; obtain ⟨q1, q2, z1, z2⟩ := bo_one HB3.out X1.out ho hg hp; obtain ⟨Av, nv, cv, rfl⟩ := own_sl ho; have Q1 := Hd q1; have Q2 := Hd q2; clear ho hg hp q1 q2)
      rotate_left
      all_goals
        generalize W1.setCell ⟨g, 0, none⟩ (.slice Av nv cv) = w4 at *
        have X5 : Hid (Blk (World.drew w4) W.heap.size 25 #[.int .i64 k, .int .i64 d, .slice A n c, .slice KA m c']) := Hd ((Q2.out.keep W.heap.size (.inr rfl) (HB3.out.ks _ (.inr rfl))).trans X3.out)
        have HU5 := Hd (fun big => uint_four big C (by omega) (Q1.out.keep (Below.drew (Below.refl _ _))) (by rw [List.length_append]; show _ + 1 ≤ _; omega))
        clear z1 z2 e0
        refine start_ (n := 11) (S := fun w' => w'.cell? ⟨W.heap.size, 0, none⟩ = some (.int .i64 k) ∧ w'.cell? ⟨W.heap.size, 1, none⟩ = some (.int .i64 d)) (ds := [10]) #[false, false, false, false, false, false, false, false, false, false, false] (by kernel_rfl) rfl rfl ⟨(X5.out.cell 0).trans rfl, (X5.out.cell 1).trans rfl⟩ (fun hHeld => ?_)
        refine pure_ (i := 0) (N := some 39) (v := ?_) (a' := ?_) #[true, false, false, false, false, false, false, false, false, false, false] rfl rfl (by kernel_rfl) (fun _ _ _ h => h) (Or.inl ⟨by rfl, ?_⟩) ?_ ?_
        rotate_left; (· intro w'; go_simp; with_reducible rfl); rotate_left; (· simp only [Act.put, sA, sB, sC]; rfl)
        refine pure_ (i := 1) (N := some 40) (v := ?_) (a' := ?_) #[true, true, false, false, false, false, false, false, false, false, false] rfl rfl (by kernel_rfl) (fun _ _ _ h => h) (Or.inl ⟨by rfl, ?_⟩) ?_ ?_
        rotate_left; (· intro w'; go_simp; with_reducible rfl); rotate_left; (· simp only [Act.put, sA, sB, sC]; rfl)
        refine pure_ (i := 4) (N := some 43) (v := ?_) (a' := ?_) #[true, true, false, false, true, false, false, false, false, false, false] rfl rfl (by kernel_rfl) (fun _ _ _ h => h) (Or.inl ⟨by rfl, ?_⟩) ?_ ?_
        rotate_left; (· intro w'; go_simp; with_reducible rfl); rotate_left; (· simp only [Act.put, sA, sB, sC]; rfl)
        refine pure_ (i := 9) (N := some 48) (v := ?_) (a' := ?_) #[true, true, false, false, true, false, false, false, false, true, false] rfl rfl (by kernel_rfl) (fun _ _ _ h => h) (Or.inl ⟨by rfl, ?_⟩) ?_ ?_
        rotate_left; (· intro w'; go_simp; with_reducible rfl); rotate_left; (· simp only [Act.put, sA, sB, sC]; rfl)
        refine take_ (i := 2) (N := some 41) (v := ?_) (a' := ?_) #[true, true, true, false, true, false, false, false, false, true, false] rfl rfl (by kernel_rfl) (fun _ _ _ h => h) (Or.inl ⟨by rfl, ?_⟩) hHeld ?_ ?_
        rotate_left; (· rintro w' ⟨s0, s1⟩; go_simp; with_reducible rfl); rotate_left; (· simp only [Act.put, sA, sB, sC]; rfl)
        refine take_ (i := 5) (N := some 44) (v := ?_) (a' := ?_) #[true, true, true, false, true, true, false, false, false, true, false] rfl rfl (by kernel_rfl) (fun _ _ _ h => h) (Or.inl ⟨by rfl, ?_⟩) hHeld ?_ ?_
        rotate_left; (· rintro w' ⟨s0, s1⟩; go_simp; with_reducible rfl); rotate_left; (· simp only [Act.put, sA, sB, sC]; rfl)
        refine pure_ (i := 6) (N := some 45) (v := ?_) (a' := ?_) #[true, true, true, false, true, true, true, false, false, true, false] rfl rfl (by kernel_rfl) (fun _ _ _ h => h) (Or.inl ⟨by rfl, ?_⟩) ?_ ?_
        rotate_left; (· intro w'; go_simp; with_reducible rfl); rotate_left; (· simp only [Act.put, sA, sB, sC]; rfl)
        refine one_ (i := 3) (N := some 42) #[true, true, true, true, true, true, true, false, false, true, false] rfl rfl (by kernel_rfl) (by decide) (fun K hK => ?_)
        refine goes_ Tryz.func112 (by kernel_rfl) rfl #[.int .i64 k] (by rfl) rfl rfl (by simp only [List.map_toArray, List.map_cons, List.map_nil]; rfl) ?_
        with_reducible refine (HWC.out _).mono ?_
        rintro e w9 ⟨rfl, rfl⟩
        refine ⟨_, rfl, ?_⟩
        refine hK.out _ _ ⟨(X5.out.cell 0).trans rfl, (X5.out.cell 1).trans rfl⟩ (fun hHeld => ?_)
        clear hK K
        refine norm_ (a' := ?_) ?_ ?_
        rotate_left
        · show Act.put _ (some 42) _ = _
          simp only [Act.put, sA, sB, sC]
          rfl
        refine pure_ (i := 7) (N := some 46) (v := ?_) (a' := ?_) #[true, true, true, true, true, true, true, true, false, true, false] rfl rfl (by kernel_rfl) (fun _ _ _ h => h) (Or.inl ⟨by rfl, ?_⟩) ?_ ?_
        rotate_left; (· intro w'; go_simp; with_reducible rfl); rotate_left; (· simp only [Act.put, sA, sB, sC]; rfl)
        refine pure_ (i := 8) (N := some 47) (v := ?_) (a' := ?_) #[true, true, true, true, true, true, true, true, true, true, false] rfl rfl (by kernel_rfl) (fun _ _ _ h => h) (Or.inl ⟨by rfl, ?_⟩) ?_ ?_
        rotate_left; (· intro w'; go_simp; with_reducible rfl); rotate_left; (· simp only [Act.put, sA, sB, sC]; rfl)
        refine last_ (i := 10) (N := some 49) #[true, true, true, true, true, true, true, true, true, true, true] rfl rfl (by kernel_rfl) (by decide) (fun K hK => ?_)
        refine goes_ Tryz.func111 (by kernel_rfl) rfl #[.pointer (some ⟨g, 0, none⟩), .int .u64 C, .int .i64 4, .bool _] (by rfl) rfl rfl (by simp only [List.map_toArray, List.map_cons, List.map_nil]; rfl) ?_
        with_reducible refine (HU5.out _).mono ?_
        rintro e w6 ⟨rfl, h6, k6⟩
        refine ⟨_, rfl, ?_⟩
        refine hK.out _ _ ?_
        clear hK K
        refine norm_ (a' := ?_) ?_ ?_
        rotate_left
        · show Act.put _ (some 49) _ = _
          simp only [Act.put, sA, sB, sC]
          rfl
        refine done_ (by kernel_rfl) ?_
        have X6 : Hid (Blk w6 W.heap.size 25 #[.int .i64 k, .int .i64 d, .slice A n c, .slice KA m c']) := Hd ((k6.keep W.heap.size (.inr rfl) (X5.out.lt)).trans X5.out)
        have K6 : Hid (Kp W w6 K) := Hd (K3.out.trans ((Q2.out.trans ((Kp.of_below (Below.drew (Below.refl _ _)) _).trans k6)).less (fun b h => .inl h)))
        have H6 := Hd h6
        have OD6 := Hd (OD3.out.keep (Q2.out.trans ((Kp.of_below (Below.drew (Below.refl _ _)) _).trans k6)) (fun b h => .inl (hQ b h)) HB3.out.ks)
        have G6 : Hid (GmOn w6 (fun b => K b ∨ b = W.heap.size) [.int .i64 k, .int .i64 d, .slice A n c, .slice KA m c'] (.mk k d ns ks)) := Hd (GmOn.keeps _ _ _ _ _ _ HG.out (fun b hb hl => K6.out.keep b (HOK.out b hb hl) hl) (fun b hb hl => .inl (HOK.out b hb hl)))
        have hf0 := X6.out.cell 0
        have hf1 := X6.out.cell 1
        have hf2 := X6.out.cell 2
        have hf3 := X6.out.cell 3
        simp at hf0 hf1 hf2 hf3
        clear h6 k6 X5 HU5 Q1 Q2 X1 X3 ROW OD3 K3
      focus
        have HUm := Hd (uint_four false m (by have := HKM.out; omega) H6.out (by simp only [List.length_append, List.length_cons, List.length_nil, uB_length]; omega))
      rotate_left
      focus
        have HUm := Hd (uint_four true m (by have := HKM.out; omega) H6.out (by simp only [List.length_append, List.length_cons, List.length_nil, uB_length]; omega))
      rotate_left
      all_goals
        go_wp2_with fail
        refine HUm.out.mono ?_
        rintro e w7 ⟨rfl, h7, k7⟩
        have G7 : Hid (GmOn w7 (fun b => K b ∨ b = W.heap.size) [.int .i64 k, .int .i64 d, .slice A n c, .slice KA m c'] (.mk k d ns ks)) := Hd (GmOn.keeps _ _ _ _ _ _ G6.out (fun b hb hl => k7.keep b hb hl) (fun b hb hl => hb))
        have X7 : Hid (Blk w7 W.heap.size 25 #[.int .i64 k, .int .i64 d, .slice A n c, .slice KA m c']) := Hd ((k7.keep W.heap.size (.inr rfl) (X6.out.lt)).trans X6.out)
        have OD7 := Hd (OD6.out.keep k7 (fun b h => .inl (hQ b h)) H6.out.ks)
        have K67 := Hd (K6.out.trans (k7.less (fun b h => .inl h)))
        have H7 := Hd h7
        have hg3 := X7.out.cell 3
        simp at hg3
        clear h7 k7 G6 OD6 K6 HUm hf0 hf1 hf2 hf3
        go_wp2
      · go_loopw [60] (fun i wr => ∃ (q : Nat) (Oq : Value), q ≤ m ∧ i = .int .i64 q ∧ Bo wr g (fun b => K b ∨ b = W.heap.size) (bs ++ [1] ++ uB false 4 C ++ uB false 4 m ++ (wkbsT (ks.take q) os).1) Oq ∧ Od wr Q Oq (wkbsT (ks.take q) os).2 ∧ Kp w7 wr (fun b => K b ∨ b = W.heap.size)) (fun i _ => m - (intOf i).toNat)
        case atStart => exact ⟨0, (.slice (some ⟨og, oo, none⟩) 0 0), Nat.zero_le _, rfl, by simpa [wkbsT] using H7.out, by simpa [wkbsT] using OD7.out, Kp.refl _ _⟩
        case round =>
          obtain ⟨q, Oq, hq, rfl, h8, o8, k8⟩ := hrel
          by_cases hlt : q < m
          · have htq : ks[q]? = some (ks[q]'(by rw [HKM.out]; exact hlt)) := List.getElem?_eq_getElem _
            have htm : (ks[q]'(by rw [HKM.out]; exact hlt)) ∈ ks := List.getElem_mem _
            generalize (ks[q]'(by rw [HKM.out]; exact hlt)) = s at htq htm
            obtain ⟨gK, sk, sd, sA, sK, sn, sm, sc, sc', rfl, hgK, hgl, y0, y1, y2, y3, gs⟩ := G7.out.kidsOf.2 q s htq
            have hk8 := k8.keep gK hgK hgl
            have z0 := (World.cell?_of_block (a := ⟨gK, q * 4, none⟩) hk8).trans y0
            have z1 := (World.cell?_of_block (a := ⟨gK, q * 4 + 1, none⟩) hk8).trans y1
            have z2 := (World.cell?_of_block (a := ⟨gK, q * 4 + 2, none⟩) hk8).trans y2
            have z3 := (World.cell?_of_block (a := ⟨gK, q * 4 + 3, none⟩) hk8).trans y3
            have x8 : Blk wr W.heap.size 25 #[.int .i64 k, .int .i64 d, .slice A n c, .slice (some ⟨gK, 0, none⟩) m c'] := (k8.keep W.heap.size (.inr rfl) (X7.out.lt)).trans X7.out
            have hws := x8.lt
            have b0 := x8.cell 0
            simp at b0
            have hsp := sum_snoc_take htq
            have HTK : Hid (ks.take (q + 1) = ks.take q ++ [s]) := Hd (by rw [List.take_add_one, htq]; rfl)
            have hwl := wkbs_len (ks.take q) os (fun t ht os => wkb_len d0 d1 (HWF.out t (List.mem_of_mem_take ht)) os)
            have gs8 : GmOn (wr.alloc (.cells #[.int .i64 sk, .int .i64 sd, .slice sA sn sc, .slice sK sm sc'] 25)) (fun b => K b ∨ b = W.heap.size) [.int .i64 sk, .int .i64 sd, .slice sA sn sc, .slice sK sm sc'] s := GmOn.keeps _ _ _ _ _ _ gs (fun b hb hl => (Below.heap_alloc wr _ b (Nat.lt_of_lt_of_le hl k8.size)).trans (k8.keep b hb hl)) (fun b hb _ => hb)
            have ha8 : Below wr.heap.size wr (wr.alloc (.cells #[.int .i64 sk, .int .i64 sd, .slice sA sn sc, .slice sK sm sc'] 25)) := (Below.refl _ _).alloc (Nat.le_refl _) _
            have hb8 := h8.keep ha8
            have ho8 := o8.keep (Kp.of_below ha8 _) (fun b h => .inl (hQ b h)) h8.ks
            have HA8 := Hd (Kp.of_below ha8 (fun b => K b ∨ b = W.heap.size))
            have HCALL := Hd (HI.out s htm _ _ (fun b => K b ∨ b = W.heap.size) Q _ _ _ _ _ _ _ _ g _ _ _ gs8 (fun b h _ => h) (fun b h => .inl (hQ b h)) hb8 ho8 (by simp only [List.length_append, List.length_cons, List.length_nil, uB_length]; omega))
            have K8 := Hd k8
            have KS8 := Hd h8.ks
            have O8 := Hd o8
            clear h8 o8 k8 hk8 y0 y1 y2 y3 gs x8 gs8 ha8 hb8 ho8 htq hg3
            go_wp2_with fail
            refine HCALL.out.mono ?_
            rintro e w10 ⟨rfl, O', h10, o10, k10⟩
            have H10 := Hd h10
            have O10 := Hd o10
            have K10 := Hd k10
            clear h10 o10 k10
            go_wp2
            go_roundw
            case rel =>
              exact ⟨q + 1, O', by omega, by go_num, by rw [HTK.out, wkbsT_snoc, ← List.append_assoc]; exact H10.out, by rw [HTK.out, wkbsT_snoc]; exact O10.out, K8.out.trans (HA8.out.trans K10.out)⟩
            case measure => simp [intOf]; omega
          · obtain rfl : m = q := by omega
            rw [List.take_of_length_le (by rw [HKM.out]; exact Nat.le_refl _)] at h8 o8
            have H8 := Hd h8
            have O8 := Hd o8
            have K8 := Hd k8
            clear h8 o8 k8 hg3
            go_wp2
            go_end0
            exact ⟨rfl, gw_leaf H8.out (fun b h => .inl h) O8.out (K67.out.trans (K8.out.less (fun b h => .inl h))) (by rw [wkbT_mk, HCK.out, HC0.out, ← HKM.out]; simp [List.append_assoc, f4, f5, f6]) (by rw [wkbT_mk]; simp only [f4, f5, f6, if_false]; rfl)⟩
      · go_loopw [60] (fun i wr => ∃ (q : Nat) (Oq : Value), q ≤ m ∧ i = .int .i64 q ∧ Bo wr g (fun b => K b ∨ b = W.heap.size) (bs ++ [0] ++ uB true 4 C ++ uB true 4 m ++ (wkbsT (ks.take q) os).1) Oq ∧ Od wr Q Oq (wkbsT (ks.take q) os).2 ∧ Kp w7 wr (fun b => K b ∨ b = W.heap.size)) (fun i _ => m - (intOf i).toNat)
        case atStart => exact ⟨0, (.slice (some ⟨og, oo, none⟩) 0 0), Nat.zero_le _, rfl, by simpa [wkbsT] using H7.out, by simpa [wkbsT] using OD7.out, Kp.refl _ _⟩
        case round =>
          obtain ⟨q, Oq, hq, rfl, h8, o8, k8⟩ := hrel
          by_cases hlt : q < m
          · have htq : ks[q]? = some (ks[q]'(by rw [HKM.out]; exact hlt)) := List.getElem?_eq_getElem _
            have htm : (ks[q]'(by rw [HKM.out]; exact hlt)) ∈ ks := List.getElem_mem _
            generalize (ks[q]'(by rw [HKM.out]; exact hlt)) = s at htq htm
            obtain ⟨gK, sk, sd, sA, sK, sn, sm, sc, sc', rfl, hgK, hgl, y0, y1, y2, y3, gs⟩ := G7.out.kidsOf.2 q s htq
            have hk8 := k8.keep gK hgK hgl
            have z0 := (World.cell?_of_block (a := ⟨gK, q * 4, none⟩) hk8).trans y0
            have z1 := (World.cell?_of_block (a := ⟨gK, q * 4 + 1, none⟩) hk8).trans y1
            have z2 := (World.cell?_of_block (a := ⟨gK, q * 4 + 2, none⟩) hk8).trans y2
            have z3 := (World.cell?_of_block (a := ⟨gK, q * 4 + 3, none⟩) hk8).trans y3
            have x8 : Blk wr W.heap.size 25 #[.int .i64 k, .int .i64 d, .slice A n c, .slice (some ⟨gK, 0, none⟩) m c'] := (k8.keep W.heap.size (.inr rfl) (X7.out.lt)).trans X7.out
            have hws := x8.lt
            have b0 := x8.cell 0
            simp at b0
            have hsp := sum_snoc_take htq
            have HTK : Hid (ks.take (q + 1) = ks.take q ++ [s]) := Hd (by rw [List.take_add_one, htq]; rfl)
            have hwl := wkbs_len (ks.take q) os (fun t ht os => wkb_len d0 d1 (HWF.out t (List.mem_of_mem_take ht)) os)
            have gs8 : GmOn (wr.alloc (.cells #[.int .i64 sk, .int .i64 sd, .slice sA sn sc, .slice sK sm sc'] 25)) (fun b => K b ∨ b = W.heap.size) [.int .i64 sk, .int .i64 sd, .slice sA sn sc, .slice sK sm sc'] s := GmOn.keeps _ _ _ _ _ _ gs (fun b hb hl => (Below.heap_alloc wr _ b (Nat.lt_of_lt_of_le hl k8.size)).trans (k8.keep b hb hl)) (fun b hb _ => hb)
            have ha8 : Below wr.heap.size wr (wr.alloc (.cells #[.int .i64 sk, .int .i64 sd, .slice sA sn sc, .slice sK sm sc'] 25)) := (Below.refl _ _).alloc (Nat.le_refl _) _
            have hb8 := h8.keep ha8
            have ho8 := o8.keep (Kp.of_below ha8 _) (fun b h => .inl (hQ b h)) h8.ks
            have HA8 := Hd (Kp.of_below ha8 (fun b => K b ∨ b = W.heap.size))
            have HCALL := Hd (HI.out s htm _ _ (fun b => K b ∨ b = W.heap.size) Q _ _ _ _ _ _ _ _ g _ _ _ gs8 (fun b h _ => h) (fun b h => .inl (hQ b h)) hb8 ho8 (by simp only [List.length_append, List.length_cons, List.length_nil, uB_length]; omega))
            have K8 := Hd k8
            have KS8 := Hd h8.ks
            have O8 := Hd o8
            clear h8 o8 k8 hk8 y0 y1 y2 y3 gs x8 gs8 ha8 hb8 ho8 htq hg3
            go_wp2_with fail
            refine HCALL.out.mono ?_
            rintro e w10 ⟨rfl, O', h10, o10, k10⟩
            have H10 := Hd h10
            have O10 := Hd o10
            have K10 := Hd k10
            clear h10 o10 k10
            go_wp2
            go_roundw
            case rel =>
              exact ⟨q + 1, O', by omega, by go_num, by rw [HTK.out, wkbsT_snoc, ← List.append_assoc]; exact H10.out, by rw [HTK.out, wkbsT_snoc]; exact O10.out, K8.out.trans (HA8.out.trans K10.out)⟩
            case measure => simp [intOf]; omega
          · obtain rfl : m = q := by omega
            rw [List.take_of_length_le (by rw [HKM.out]; exact Nat.le_refl _)] at h8 o8
            have H8 := Hd h8
            have O8 := Hd o8
            have K8 := Hd k8
            clear h8 o8 k8 hg3
            go_wp2
            go_end0
            exact ⟨rfl, gw_leaf H8.out (fun b h => .inl h) O8.out (K67.out.trans (K8.out.less (fun b h => .inl h))) (by rw [wkbT_mk, HCK.out, HC0.out, ← HKM.out]; simp [List.append_assoc, f4, f5, f6]) (by rw [wkbT_mk]; simp only [f4, f5, f6, if_false]; rfl)⟩
    · have HH := Hd (head_world (T := 25) (cs := #[.int .i64 k, .int .i64 d, .slice A n c, .slice KA m c']) (O' := .slice (some ⟨og, oo + 1, none⟩) (on - 1) (oc - 1)) hB hQ (Od.tail o1 o2 og1 o4 (oo + 1) (.inr rfl)))
      clear hB x0 o4 o3
      go_enter Tryz.func47, Tryz.ntmps47
      go_wp2_with fail
      go_region
      clear c0d d1d z1d
      cases b
      all_goals
        go_upto_region 7 with fail
        generalize (World.drew ((W.setCell ⟨g, 1, none⟩ (.slice (some ⟨og, oo + 1, none⟩) (on - 1) (oc - 1))).alloc (.cells #[.int .i64 k, .int .i64 d, .slice A n c, .slice KA m c'] 25))) = w3 at *
        obtain ⟨hb3, k3, od3, x3⟩ := HH.out
        obtain ⟨v, x1, w1, vn, vk⟩ := hb3.blk
        obtain ⟨VA, vl, vc, rfl⟩ := own_sl w1
        have e0 := x1.cell 0
        simp at e0
        have X1 := Hd x1
        have ROW := Hd w1
        have HB3 := Hd hb3
        have K3 := Hd k3
        have OD3 := Hd od3
        have X3 := Hd x3
        clear hb3 k3 od3 x3 x1 w1 vn vk HH d1c
      focus
        go_wp2_with (at_builtin; refine wpList_append_any _ rfl _ _ _ rfl 0 5 i0 (.int .u8 0) 1 1 Tryz.underlying28 hi0 hz0 hz1 hz2 rfl (by decide) _ bs.length (bytesV bs) rfl (ROW.out.alloc _) _ _ 1 _ [.int .u8 1] rfl (by exact reads_one rfl) (by simp [Value.oneCell']) (by simp only [maxLen]; omega) (by omega) (Nat.zero_le _) ?_; intro v1 W1 ho hg hp; obtain ⟨q1, q2, z1, z2⟩ := bo_one HB3.out X1.out ho hg hp; obtain ⟨Av, nv, cv, rfl⟩ := own_sl ho; have Q1 := Hd q1; have Q2 := Hd q2; clear ho hg hp q1 q2)
      rotate_left
      focus
        go_wp2_with (at_builtin; refine wpList_append_any _ rfl _ _ _ rfl 0 5 i0 (.int .u8 0) 1 1 Tryz.underlying28 hi0 hz0 hz1 hz2 rfl (by decide) _ bs.length (bytesV bs) rfl (ROW.out.alloc _) _ _ 1 _ [.int .u8 0] rfl (by exact reads_one rfl) (by simp [Value.oneCell']) (by simp only [maxLen]; omega) (by omega) (Nat.zero_le _) ?_; intro v1 W1 ho hg hp; obtain ⟨q1, q2, z1, z2⟩ := bo_one HB3.out X1.out ho hg hp; obtain ⟨Av, nv, cv, rfl⟩ := own_sl ho; have Q1 := Hd q1; have Q2 := Hd q2; clear ho hg hp q1 q2)
      rotate_left
      all_goals
        generalize W1.setCell ⟨g, 0, none⟩ (.slice Av nv cv) = w4 at *
        have X5 : Hid (Blk (World.drew w4) W.heap.size 25 #[.int .i64 k, .int .i64 d, .slice A n c, .slice KA m c']) := Hd ((Q2.out.keep W.heap.size (.inr rfl) (HB3.out.ks _ (.inr rfl))).trans X3.out)
        have HU5 := Hd (fun big => uint_four big C (by omega) (Q1.out.keep (Below.drew (Below.refl _ _))) (by rw [List.length_append]; show _ + 1 ≤ _; omega))
        clear z1 z2 e0
        refine start_ (n := 11) (S := fun w' => w'.cell? ⟨W.heap.size, 0, none⟩ = some (.int .i64 k) ∧ w'.cell? ⟨W.heap.size, 1, none⟩ = some (.int .i64 d)) (ds := [10]) #[false, false, false, false, false, false, false, false, false, false, false] (by kernel_rfl) rfl rfl ⟨(X5.out.cell 0).trans rfl, (X5.out.cell 1).trans rfl⟩ (fun hHeld => ?_)
        refine pure_ (i := 0) (N := some 39) (v := ?_) (a' := ?_) #[true, false, false, false, false, false, false, false, false, false, false] rfl rfl (by kernel_rfl) (fun _ _ _ h => h) (Or.inl ⟨by rfl, ?_⟩) ?_ ?_
        rotate_left; (· intro w'; go_simp; with_reducible rfl); rotate_left; (· simp only [Act.put, sA, sB, sC]; rfl)
        refine pure_ (i := 1) (N := some 40) (v := ?_) (a' := ?_) #[true, true, false, false, false, false, false, false, false, false, false] rfl rfl (by kernel_rfl) (fun _ _ _ h => h) (Or.inl ⟨by rfl, ?_⟩) ?_ ?_
        rotate_left; (· intro w'; go_simp; with_reducible rfl); rotate_left; (· simp only [Act.put, sA, sB, sC]; rfl)
        refine pure_ (i := 4) (N := some 43) (v := ?_) (a' := ?_) #[true, true, false, false, true, false, false, false, false, false, false] rfl rfl (by kernel_rfl) (fun _ _ _ h => h) (Or.inl ⟨by rfl, ?_⟩) ?_ ?_
        rotate_left; (· intro w'; go_simp; with_reducible rfl); rotate_left; (· simp only [Act.put, sA, sB, sC]; rfl)
        refine pure_ (i := 9) (N := some 48) (v := ?_) (a' := ?_) #[true, true, false, false, true, false, false, false, false, true, false] rfl rfl (by kernel_rfl) (fun _ _ _ h => h) (Or.inl ⟨by rfl, ?_⟩) ?_ ?_
        rotate_left; (· intro w'; go_simp; with_reducible rfl); rotate_left; (· simp only [Act.put, sA, sB, sC]; rfl)
        refine take_ (i := 2) (N := some 41) (v := ?_) (a' := ?_) #[true, true, true, false, true, false, false, false, false, true, false] rfl rfl (by kernel_rfl) (fun _ _ _ h => h) (Or.inl ⟨by rfl, ?_⟩) hHeld ?_ ?_
        rotate_left; (· rintro w' ⟨s0, s1⟩; go_simp; with_reducible rfl); rotate_left; (· simp only [Act.put, sA, sB, sC]; rfl)
        refine take_ (i := 5) (N := some 44) (v := ?_) (a' := ?_) #[true, true, true, false, true, true, false, false, false, true, false] rfl rfl (by kernel_rfl) (fun _ _ _ h => h) (Or.inl ⟨by rfl, ?_⟩) hHeld ?_ ?_
        rotate_left; (· rintro w' ⟨s0, s1⟩; go_simp; with_reducible rfl); rotate_left; (· simp only [Act.put, sA, sB, sC]; rfl)
        refine pure_ (i := 6) (N := some 45) (v := ?_) (a' := ?_) #[true, true, true, false, true, true, true, false, false, true, false] rfl rfl (by kernel_rfl) (fun _ _ _ h => h) (Or.inl ⟨by rfl, ?_⟩) ?_ ?_
        rotate_left; (· intro w'; go_simp; with_reducible rfl); rotate_left; (· simp only [Act.put, sA, sB, sC]; rfl)
        refine one_ (i := 3) (N := some 42) #[true, true, true, true, true, true, true, false, false, true, false] rfl rfl (by kernel_rfl) (by decide) (fun K hK => ?_)
        refine goes_ Tryz.func112 (by kernel_rfl) rfl #[.int .i64 k] (by rfl) rfl rfl (by simp only [List.map_toArray, List.map_cons, List.map_nil]; rfl) ?_
        with_reducible refine (HWC.out _).mono ?_
        rintro e w9 ⟨rfl, rfl⟩
        refine ⟨_, rfl, ?_⟩
        refine hK.out _ _ ⟨(X5.out.cell 0).trans rfl, (X5.out.cell 1).trans rfl⟩ (fun hHeld => ?_)
        clear hK K
        refine norm_ (a' := ?_) ?_ ?_
        rotate_left
        · show Act.put _ (some 42) _ = _
          simp only [Act.put, sA, sB, sC]
          rfl
        refine pure_ (i := 7) (N := some 46) (v := ?_) (a' := ?_) #[true, true, true, true, true, true, true, true, false, true, false] rfl rfl (by kernel_rfl) (fun _ _ _ h => h) (Or.inl ⟨by rfl, ?_⟩) ?_ ?_
        rotate_left; (· intro w'; go_simp; with_reducible rfl); rotate_left; (· simp only [Act.put, sA, sB, sC]; rfl)
        refine pure_ (i := 8) (N := some 47) (v := ?_) (a' := ?_) #[true, true, true, true, true, true, true, true, true, true, false] rfl rfl (by kernel_rfl) (fun _ _ _ h => h) (Or.inl ⟨by rfl, ?_⟩) ?_ ?_
        rotate_left; (· intro w'; go_simp; with_reducible rfl); rotate_left; (· simp only [Act.put, sA, sB, sC]; rfl)
        refine last_ (i := 10) (N := some 49) #[true, true, true, true, true, true, true, true, true, true, true] rfl rfl (by kernel_rfl) (by decide) (fun K hK => ?_)
        refine goes_ Tryz.func111 (by kernel_rfl) rfl #[.pointer (some ⟨g, 0, none⟩), .int .u64 C, .int .i64 4, .bool _] (by rfl) rfl rfl (by simp only [List.map_toArray, List.map_cons, List.map_nil]; rfl) ?_
        with_reducible refine (HU5.out _).mono ?_
        rintro e w6 ⟨rfl, h6, k6⟩
        refine ⟨_, rfl, ?_⟩
        refine hK.out _ _ ?_
        clear hK K
        refine norm_ (a' := ?_) ?_ ?_
        rotate_left
        · show Act.put _ (some 49) _ = _
          simp only [Act.put, sA, sB, sC]
          rfl
        refine done_ (by kernel_rfl) ?_
        have X6 : Hid (Blk w6 W.heap.size 25 #[.int .i64 k, .int .i64 d, .slice A n c, .slice KA m c']) := Hd ((k6.keep W.heap.size (.inr rfl) (X5.out.lt)).trans X5.out)
        have K6 : Hid (Kp W w6 K) := Hd (K3.out.trans ((Q2.out.trans ((Kp.of_below (Below.drew (Below.refl _ _)) _).trans k6)).less (fun b h => .inl h)))
        have H6 := Hd h6
        have OD6 := Hd (OD3.out.keep (Q2.out.trans ((Kp.of_below (Below.drew (Below.refl _ _)) _).trans k6)) (fun b h => .inl (hQ b h)) HB3.out.ks)
        have G6 : Hid (GmOn w6 (fun b => K b ∨ b = W.heap.size) [.int .i64 k, .int .i64 d, .slice A n c, .slice KA m c'] (.mk k d ns ks)) := Hd (GmOn.keeps _ _ _ _ _ _ HG.out (fun b hb hl => K6.out.keep b (HOK.out b hb hl) hl) (fun b hb hl => .inl (HOK.out b hb hl)))
        have hf0 := X6.out.cell 0
        have hf1 := X6.out.cell 1
        have hf2 := X6.out.cell 2
        have hf3 := X6.out.cell 3
        simp at hf0 hf1 hf2 hf3
        clear h6 k6 X5 HU5 Q1 Q2 X1 X3 ROW OD3 K3
      focus
        have HUm := Hd (uint_four false m (by have := HKM.out; omega) H6.out (by simp only [List.length_append, List.length_cons, List.length_nil, uB_length]; omega))
      rotate_left
      focus
        have HUm := Hd (uint_four true m (by have := HKM.out; omega) H6.out (by simp only [List.length_append, List.length_cons, List.length_nil, uB_length]; omega))
      rotate_left
      all_goals
        go_wp2_with fail
        refine HUm.out.mono ?_
        rintro e w7 ⟨rfl, h7, k7⟩
        have G7 : Hid (GmOn w7 (fun b => K b ∨ b = W.heap.size) [.int .i64 k, .int .i64 d, .slice A n c, .slice KA m c'] (.mk k d ns ks)) := Hd (GmOn.keeps _ _ _ _ _ _ G6.out (fun b hb hl => k7.keep b hb hl) (fun b hb hl => hb))
        have X7 : Hid (Blk w7 W.heap.size 25 #[.int .i64 k, .int .i64 d, .slice A n c, .slice KA m c']) := Hd ((k7.keep W.heap.size (.inr rfl) (X6.out.lt)).trans X6.out)
        have OD7 := Hd (OD6.out.keep k7 (fun b h => .inl (hQ b h)) H6.out.ks)
        have K67 := Hd (K6.out.trans (k7.less (fun b h => .inl h)))
        have H7 := Hd h7
        have hg3 := X7.out.cell 3
        simp at hg3
        clear h7 k7 G6 OD6 K6 HUm hf0 hf1 hf2 hf3
        go_wp2
      · go_loopw [60] (fun i wr => ∃ (q : Nat) (Oq : Value), q ≤ m ∧ i = .int .i64 q ∧ Bo wr g (fun b => K b ∨ b = W.heap.size) (bs ++ [1] ++ uB false 4 C ++ uB false 4 m ++ (wkbsT (ks.take q) os).1) Oq ∧ Od wr Q Oq (wkbsT (ks.take q) os).2 ∧ Kp w7 wr (fun b => K b ∨ b = W.heap.size)) (fun i _ => m - (intOf i).toNat)
        case atStart => exact ⟨0, (.slice (some ⟨og, oo + 1, none⟩) (on - 1) (oc - 1)), Nat.zero_le _, rfl, by simpa [wkbsT] using H7.out, by simpa [wkbsT] using OD7.out, Kp.refl _ _⟩
        case round =>
          obtain ⟨q, Oq, hq, rfl, h8, o8, k8⟩ := hrel
          by_cases hlt : q < m
          · have htq : ks[q]? = some (ks[q]'(by rw [HKM.out]; exact hlt)) := List.getElem?_eq_getElem _
            have htm : (ks[q]'(by rw [HKM.out]; exact hlt)) ∈ ks := List.getElem_mem _
            generalize (ks[q]'(by rw [HKM.out]; exact hlt)) = s at htq htm
            obtain ⟨gK, sk, sd, sA, sK, sn, sm, sc, sc', rfl, hgK, hgl, y0, y1, y2, y3, gs⟩ := G7.out.kidsOf.2 q s htq
            have hk8 := k8.keep gK hgK hgl
            have z0 := (World.cell?_of_block (a := ⟨gK, q * 4, none⟩) hk8).trans y0
            have z1 := (World.cell?_of_block (a := ⟨gK, q * 4 + 1, none⟩) hk8).trans y1
            have z2 := (World.cell?_of_block (a := ⟨gK, q * 4 + 2, none⟩) hk8).trans y2
            have z3 := (World.cell?_of_block (a := ⟨gK, q * 4 + 3, none⟩) hk8).trans y3
            have x8 : Blk wr W.heap.size 25 #[.int .i64 k, .int .i64 d, .slice A n c, .slice (some ⟨gK, 0, none⟩) m c'] := (k8.keep W.heap.size (.inr rfl) (X7.out.lt)).trans X7.out
            have hws := x8.lt
            have b0 := x8.cell 0
            simp at b0
            have hsp := sum_snoc_take htq
            have HTK : Hid (ks.take (q + 1) = ks.take q ++ [s]) := Hd (by rw [List.take_add_one, htq]; rfl)
            have hwl := wkbs_len (ks.take q) os (fun t ht os => wkb_len d0 d1 (HWF.out t (List.mem_of_mem_take ht)) os)
            have gs8 : GmOn (wr.alloc (.cells #[.int .i64 sk, .int .i64 sd, .slice sA sn sc, .slice sK sm sc'] 25)) (fun b => K b ∨ b = W.heap.size) [.int .i64 sk, .int .i64 sd, .slice sA sn sc, .slice sK sm sc'] s := GmOn.keeps _ _ _ _ _ _ gs (fun b hb hl => (Below.heap_alloc wr _ b (Nat.lt_of_lt_of_le hl k8.size)).trans (k8.keep b hb hl)) (fun b hb _ => hb)
            have ha8 : Below wr.heap.size wr (wr.alloc (.cells #[.int .i64 sk, .int .i64 sd, .slice sA sn sc, .slice sK sm sc'] 25)) := (Below.refl _ _).alloc (Nat.le_refl _) _
            have hb8 := h8.keep ha8
            have ho8 := o8.keep (Kp.of_below ha8 _) (fun b h => .inl (hQ b h)) h8.ks
            have HA8 := Hd (Kp.of_below ha8 (fun b => K b ∨ b = W.heap.size))
            have HCALL := Hd (HI.out s htm _ _ (fun b => K b ∨ b = W.heap.size) Q _ _ _ _ _ _ _ _ g _ _ _ gs8 (fun b h _ => h) (fun b h => .inl (hQ b h)) hb8 ho8 (by simp only [List.length_append, List.length_cons, List.length_nil, uB_length]; omega))
            have K8 := Hd k8
            have KS8 := Hd h8.ks
            have O8 := Hd o8
            clear h8 o8 k8 hk8 y0 y1 y2 y3 gs x8 gs8 ha8 hb8 ho8 htq hg3
            go_wp2_with fail
            refine HCALL.out.mono ?_
            rintro e w10 ⟨rfl, O', h10, o10, k10⟩
            have H10 := Hd h10
            have O10 := Hd o10
            have K10 := Hd k10
            clear h10 o10 k10
            go_wp2
            go_roundw
            case rel =>
              exact ⟨q + 1, O', by omega, by go_num, by rw [HTK.out, wkbsT_snoc, ← List.append_assoc]; exact H10.out, by rw [HTK.out, wkbsT_snoc]; exact O10.out, K8.out.trans (HA8.out.trans K10.out)⟩
            case measure => simp [intOf]; omega
          · obtain rfl : m = q := by omega
            rw [List.take_of_length_le (by rw [HKM.out]; exact Nat.le_refl _)] at h8 o8
            have H8 := Hd h8
            have O8 := Hd o8
            have K8 := Hd k8
            clear h8 o8 k8 hg3
            go_wp2
            go_end0
            exact ⟨rfl, gw_leaf H8.out (fun b h => .inl h) O8.out (K67.out.trans (K8.out.less (fun b h => .inl h))) (by rw [wkbT_mk, HCK.out, HC0.out, ← HKM.out]; simp [List.append_assoc, f4, f5, f6]) (by rw [wkbT_mk]; simp only [f4, f5, f6, if_false]; rfl)⟩
      · go_loopw [60] (fun i wr => ∃ (q : Nat) (Oq : Value), q ≤ m ∧ i = .int .i64 q ∧ Bo wr g (fun b => K b ∨ b = W.heap.size) (bs ++ [0] ++ uB true 4 C ++ uB true 4 m ++ (wkbsT (ks.take q) os).1) Oq ∧ Od wr Q Oq (wkbsT (ks.take q) os).2 ∧ Kp w7 wr (fun b => K b ∨ b = W.heap.size)) (fun i _ => m - (intOf i).toNat)
        case atStart => exact ⟨0, (.slice (some ⟨og, oo + 1, none⟩) (on - 1) (oc - 1)), Nat.zero_le _, rfl, by simpa [wkbsT] using H7.out, by simpa [wkbsT] using OD7.out, Kp.refl _ _⟩
        case round =>
          obtain ⟨q, Oq, hq, rfl, h8, o8, k8⟩ := hrel
          by_cases hlt : q < m
          · have htq : ks[q]? = some (ks[q]'(by rw [HKM.out]; exact hlt)) := List.getElem?_eq_getElem _
            have htm : (ks[q]'(by rw [HKM.out]; exact hlt)) ∈ ks := List.getElem_mem _
            generalize (ks[q]'(by rw [HKM.out]; exact hlt)) = s at htq htm
            obtain ⟨gK, sk, sd, sA, sK, sn, sm, sc, sc', rfl, hgK, hgl, y0, y1, y2, y3, gs⟩ := G7.out.kidsOf.2 q s htq
            have hk8 := k8.keep gK hgK hgl
            have z0 := (World.cell?_of_block (a := ⟨gK, q * 4, none⟩) hk8).trans y0
            have z1 := (World.cell?_of_block (a := ⟨gK, q * 4 + 1, none⟩) hk8).trans y1
            have z2 := (World.cell?_of_block (a := ⟨gK, q * 4 + 2, none⟩) hk8).trans y2
            have z3 := (World.cell?_of_block (a := ⟨gK, q * 4 + 3, none⟩) hk8).trans y3
            have x8 : Blk wr W.heap.size 25 #[.int .i64 k, .int .i64 d, .slice A n c, .slice (some ⟨gK, 0, none⟩) m c'] := (k8.keep W.heap.size (.inr rfl) (X7.out.lt)).trans X7.out
            have hws := x8.lt
            have b0 := x8.cell 0
            simp at b0
            have hsp := sum_snoc_take htq
            have HTK : Hid (ks.take (q + 1) = ks.take q ++ [s]) := Hd (by rw [List.take_add_one, htq]; rfl)
            have hwl := wkbs_len (ks.take q) os (fun t ht os => wkb_len d0 d1 (HWF.out t (List.mem_of_mem_take ht)) os)
            have gs8 : GmOn (wr.alloc (.cells #[.int .i64 sk, .int .i64 sd, .slice sA sn sc, .slice sK sm sc'] 25)) (fun b => K b ∨ b = W.heap.size) [.int .i64 sk, .int .i64 sd, .slice sA sn sc, .slice sK sm sc'] s := GmOn.keeps _ _ _ _ _ _ gs (fun b hb hl => (Below.heap_alloc wr _ b (Nat.lt_of_lt_of_le hl k8.size)).trans (k8.keep b hb hl)) (fun b hb _ => hb)
            have ha8 : Below wr.heap.size wr (wr.alloc (.cells #[.int .i64 sk, .int .i64 sd, .slice sA sn sc, .slice sK sm sc'] 25)) := (Below.refl _ _).alloc (Nat.le_refl _) _
            have hb8 := h8.keep ha8
            have ho8 := o8.keep (Kp.of_below ha8 _) (fun b h => .inl (hQ b h)) h8.ks
            have HA8 := Hd (Kp.of_below ha8 (fun b => K b ∨ b = W.heap.size))
            have HCALL := Hd (HI.out s htm _ _ (fun b => K b ∨ b = W.heap.size) Q _ _ _ _ _ _ _ _ g _ _ _ gs8 (fun b h _ => h) (fun b h => .inl (hQ b h)) hb8 ho8 (by simp only [List.length_append, List.length_cons, List.length_nil, uB_length]; omega))
            have K8 := Hd k8
            have KS8 := Hd h8.ks
            have O8 := Hd o8
            clear h8 o8 k8 hk8 y0 y1 y2 y3 gs x8 gs8 ha8 hb8 ho8 htq hg3
            go_wp2_with fail
            refine HCALL.out.mono ?_
            rintro e w10 ⟨rfl, O', h10, o10, k10⟩
            have H10 := Hd h10
            have O10 := Hd o10
            have K10 := Hd k10
            clear h10 o10 k10
            go_wp2
            go_roundw
            case rel =>
              exact ⟨q + 1, O', by omega, by go_num, by rw [HTK.out, wkbsT_snoc, ← List.append_assoc]; exact H10.out, by rw [HTK.out, wkbsT_snoc]; exact O10.out, K8.out.trans (HA8.out.trans K10.out)⟩
            case measure => simp [intOf]; omega
          · obtain rfl : m = q := by omega
            rw [List.take_of_length_le (by rw [HKM.out]; exact Nat.le_refl _)] at h8 o8
            have H8 := Hd h8
            have O8 := Hd o8
            have K8 := Hd k8
            clear h8 o8 k8 hg3
            go_wp2
            go_end0
            exact ⟨rfl, gw_leaf H8.out (fun b h => .inl h) O8.out (K67.out.trans (K8.out.less (fun b h => .inl h))) (by rw [wkbT_mk, HCK.out, HC0.out, ← HKM.out]; simp [List.append_assoc, f4, f5, f6]) (by rw [wkbT_mk]; simp only [f4, f5, f6, if_false]; rfl)⟩
end Go.Proofs.YtofdccmmagcamaaGreatDoor
