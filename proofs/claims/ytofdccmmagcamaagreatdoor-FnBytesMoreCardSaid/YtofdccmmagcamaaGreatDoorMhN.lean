import Derived.Test.YtofdccmmagcamaaGreatDoorMhM
import Derived.Test.YtofdccmmagcamaaGreatDoorBxU
/- What New makes is well formed (each kind has the parts and numbers that it may have, all of one type); its bytes, as data. -/
set_option maxHeartbeats 8000000
set_option linter.unusedSimpArgs false
set_option linter.unusedVariables false
namespace Go.Proofs.YtofdccmmagcamaaGreatDoor
open Go.RowKit

/-- Well formed, of the type D. -/
inductive Wf (D : Int) : Gm → Prop
  | pt {ns : List Nat} (h : ns = [] ∨ ns.length = wd D) : Wf D (.mk 1 D ns [])
  | ls {ns : List Nat} (h : ns.length % wd D = 0) : Wf D (.mk 2 D ns [])
  | parts {k : Int} {ks : List Gm} (hk : k = 0 ∨ k = 3 ∨ k = 4 ∨ k = 5 ∨ k = 6) (h : ∀ t ∈ ks, Wf D t) (h2 : ∀ t ∈ ks, kidOf k < 0 ∨ kidOf k = t.k) : Wf D (.mk k D [] ks)
theorem wf_d {D : Int} {t : Gm} (h : Wf D t) : t.d = D := by cases h <;> rfl
theorem forceT_k (D : Int) (t : Gm) : (forceT D t).k = t.k := by
  cases t
  rw [forceT_mk]
  rfl
theorem wf_force {D d : Int} (d0 : 0 ≤ D) (d1 : D ≤ 3) {t : Gm} (h : Wf d t) : Wf D (forceT D t) := by
  induction h with
  | @pt ns h =>
    rw [forceT_mk]
    refine .pt ?_
    rcases h with rfl | h
    · left
      simp [ptsN, plsNums]
    · right
      rw [plsNums_wd D d0 d1, ptsN_length, h, Nat.div_self (Nat.lt_of_lt_of_le (by decide) (wd_pos' d)), Nat.one_mul]
  | @ls ns h =>
    rw [forceT_mk]
    refine .ls ?_
    rw [plsNums_wd D d0 d1]
    exact Nat.mul_mod_left _ _
  | @parts k ks hk h h2 ih =>
    rw [forceT_mk]
    have e : plsNums D (ptsN d [] (([] : List Nat).length / wd d)) = [] := by simp [ptsN, plsNums]
    rw [e]
    refine .parts hk (fun t ht => ?_) (fun t ht => ?_)
    · obtain ⟨s, hs, rfl⟩ := List.mem_map.1 ht
      exact ih s hs
    · obtain ⟨s, hs, rfl⟩ := List.mem_map.1 ht
      rw [forceT_k]
      exact h2 s hs
theorem wf_newT : ∀ t : Gm, t.sz ≤ 100000 → Wf (newT t).d (newT t)
  | .mk k d ns ks => fun hs => by
    have hok := ok_newT (.mk k d ns ks) hs
    have hsz : ∀ t ∈ ks, t.sz ≤ 100000 := fun t ht => by
      have := sz_mem ht
      unfold Gm.sz at hs
      omega
    have ih : ∀ t ∈ ks, Wf (newT t).d (newT t) := fun t ht => wf_newT t (hsz t ht)
    have q0 : 0 ≤ d % 4 := by omega
    have q1 : d % 4 ≤ 3 := by omega
    have hkn : kindN k = 0 ∨ kindN k = 1 ∨ kindN k = 2 ∨ kindN k = 3 ∨ kindN k = 4 ∨ kindN k = 5 ∨ kindN k = 6 := by
      unfold kindN
      split <;> omega
    rw [newT_mk] at hok ⊢
    generalize kindN k = kk at *
    by_cases hk : kk = 1 ∨ kk = 2
    · rw [if_pos hk]
      have hc : cutL kk (d % 4) ns.length ≤ ns.length := by
        unfold cutL
        refine Nat.le_trans (Nat.mul_le_mul_right _ ?_) (Nat.div_mul_le_self _ (wd (d % 4)))
        split
        · exact Nat.min_le_left _ _
        · exact Nat.le_refl _
      have hl : (ns.take (cutL kk (d % 4) ns.length)).length = cutL kk (d % 4) ns.length := by rw [List.length_take, Nat.min_eq_left hc]
      rcases hk with rfl | rfl
      · refine .pt ?_
        rcases Nat.eq_zero_or_pos (ns.length / wd (d % 4)) with h0 | h0
        · left
          apply List.eq_nil_of_length_eq_zero
          rw [hl]
          unfold cutL
          rw [h0]
          simp
        · right
          rw [hl]
          unfold cutL
          rw [if_pos rfl, Nat.min_eq_right h0, Nat.one_mul]
          rfl
      · refine .ls ?_
        rw [hl]
        unfold cutL
        exact Nat.mul_mod_left _ _
    · rw [if_neg hk] at hok ⊢
      unfold partsT at hok ⊢
      have hkk : kk = 0 ∨ kk = 3 ∨ kk = 4 ∨ kk = 5 ∨ kk = 6 := by omega
      split at hok
      · rename_i hm
        rw [if_pos hm]
        exact .parts hkk (fun t ht => by cases ht) (fun t ht => by cases ht)
      · rename_i hm
        rw [if_neg hm]
        rw [forceT_d] at hok ⊢
        rw [forceT_mk]
        have e : plsNums (List.foldl (fun a m => dand a m.d) 3 ((ks.map newT).filter (keepT kk))) (ptsN (d % 4) [] (([] : List Nat).length / wd (d % 4))) = [] := by simp [ptsN, plsNums]
        rw [e]
        refine .parts hkk (fun t ht => ?_) (fun t ht => ?_)
        · obtain ⟨s, hs', rfl⟩ := List.mem_map.1 ht
          obtain ⟨hs1, _⟩ := List.mem_filter.1 hs'
          obtain ⟨u, hu, rfl⟩ := List.mem_map.1 hs1
          exact wf_force hok.1 hok.2.1 (ih u hu)
        · obtain ⟨s, hs', rfl⟩ := List.mem_map.1 ht
          obtain ⟨_, hs2⟩ := List.mem_filter.1 hs'
          rw [forceT_k]
          unfold keepT at hs2
          simpa using hs2

def lineB (big : Bool) : Gm → List Int
  | .mk _ d ns _ => uB big 4 (ns.length / wd d) ++ numsB big ns
/-- The bytes of a geometry, and the orders that are left. -/
def wkbT : Gm → List Bool → List Int × List Bool
  | .mk k d ns ks => fun os =>
    let big := os.headD false
    let hd : List Int := [if big then 0 else 1] ++ uB big 4 (codeK k + 1000 * d).toNat
    if k = 1 then (hd ++ (if ns = [] then (List.replicate (wd d) (uB big 8 emptyBits)).flatten else numsB big ns), os.tail)
    else if k = 2 then (hd ++ lineB big (.mk k d ns ks), os.tail)
    else if k = 3 then (hd ++ uB big 4 ks.length ++ (ks.map (lineB big)).flatten, os.tail)
    else
      let r := ks.attach.foldl (fun a x => (a.1 ++ (wkbT x.1 a.2).1, (wkbT x.1 a.2).2)) (([] : List Int), os.tail)
      (hd ++ uB big 4 ks.length ++ r.1, r.2)
decreasing_by all_goals (have := List.sizeOf_lt_of_mem x.2; simp; omega)
/-- Several, one behind the other. -/
def wkbsT : List Gm → List Bool → List Int × List Bool
  | [], os => ([], os)
  | t :: ts, os => ((wkbT t os).1 ++ (wkbsT ts (wkbT t os).2).1, (wkbsT ts (wkbT t os).2).2)
theorem foldl_wkbs : ∀ (ts : List Gm) (acc : List Int) (os : List Bool), ts.foldl (fun a x => (a.1 ++ (wkbT x a.2).1, (wkbT x a.2).2)) (acc, os) = (acc ++ (wkbsT ts os).1, (wkbsT ts os).2)
  | [], acc, os => by simp [wkbsT]
  | t :: ts, acc, os => by
    rw [List.foldl_cons, foldl_wkbs ts]
    simp [wkbsT]
theorem wkbT_mk (k d : Int) (ns : List Nat) (ks : List Gm) (os : List Bool) : wkbT (.mk k d ns ks) os =
    (let big := os.headD false
     let hd : List Int := [if big then 0 else 1] ++ uB big 4 (codeK k + 1000 * d).toNat
     if k = 1 then (hd ++ (if ns = [] then (List.replicate (wd d) (uB big 8 emptyBits)).flatten else numsB big ns), os.tail)
     else if k = 2 then (hd ++ lineB big (.mk k d ns ks), os.tail)
     else if k = 3 then (hd ++ uB big 4 ks.length ++ (ks.map (lineB big)).flatten, os.tail)
     else (hd ++ uB big 4 ks.length ++ (wkbsT ks os.tail).1, (wkbsT ks os.tail).2)) := by
  rw [wkbT]
  have e : ks.attach.foldl (fun a x => (a.1 ++ (wkbT x.1 a.2).1, (wkbT x.1 a.2).2)) (([] : List Int), os.tail) = ((wkbsT ks os.tail).1, (wkbsT ks os.tail).2) := by
    have h := foldl_wkbs ks [] os.tail
    rw [List.nil_append] at h
    rw [← h]
    conv => rhs; rw [← List.attach_map_subtype_val ks, List.foldl_map]
  simp only [e]

end Go.Proofs.YtofdccmmagcamaaGreatDoor

/- Well formed data is of one type; how long its bytes are. -/
set_option maxHeartbeats 8000000
set_option linter.unusedSimpArgs false
set_option linter.unusedVariables false
namespace Go.Proofs.YtofdccmmagcamaaGreatDoor
open Go.RowKit

theorem wf_sd {D : Int} {t : Gm} (h : Wf D t) : Sd D t := by
  induction h with
  | pt h =>
    refine .mk ?_ (fun t ht => by cases ht)
    rcases h with rfl | h
    · simp
    · rw [h, Nat.mod_self]
  | ls h => exact .mk h (fun t ht => by cases ht)
  | parts hk h h2 ih => exact .mk (by simp) ih
/-- Parts that are all of the type D: nothing turns. -/
theorem force_parts {D k : Int} {ms : List Gm} (d0 : 0 ≤ D) (d1 : D ≤ 3) (h : ∀ t ∈ ms, Wf D t) (hne : ms ≠ []) : forceT (ms.foldl (fun a m => dand a m.d) 3) (.mk k D [] ms) = .mk k D [] ms := by
  rw [fold_same d0 d1 ms 3 (fun m hm => wf_d (h m hm)) (.inr ⟨rfl, hne⟩)]
  exact forceT_sd d0 d1 (.mk (by simp) (fun t ht => wf_sd (h t ht)))
theorem wd_le4 (d : Int) (d0 : 0 ≤ d) (d1 : d ≤ 3) : wd d ≤ 4 := by
  rcases wd_cases d d0 d1 with ⟨_, e⟩ | ⟨_, e⟩ | ⟨_, e⟩ | ⟨_, e⟩ <;> omega
theorem nums_np {D : Int} (d0 : 0 ≤ D) (d1 : D ≤ 3) (n : Nat) (h : n % wd D = 0) : n ≤ 4 * (n / wd D) := by
  have e := Nat.div_add_mod n (wd D)
  rw [h, Nat.add_zero] at e
  have := Nat.mul_le_mul_right (n / wd D) (wd_le4 D d0 d1)
  omega
theorem lineB_len {D : Int} (d0 : 0 ≤ D) (d1 : D ≤ 3) (big : Bool) {t : Gm} (h : Wf D t) : (lineB big t).length ≤ 50 * t.np := by
  have h2 := wf_sd h
  cases h2 with
  | @mk k ns ks hl hk =>
    show (uB big 4 (ns.length / wd D) ++ numsB big ns).length ≤ _
    rw [List.length_append, uB_length, numsB_length, np_mk]
    have := nums_np d0 d1 ns.length hl
    omega
theorem lines_len {D : Int} (d0 : 0 ≤ D) (d1 : D ≤ 3) (big : Bool) : ∀ ts : List Gm, (∀ t ∈ ts, Wf D t) → ((ts.map (lineB big)).flatten).length ≤ 50 * (ts.map Gm.np).sum
  | [], _ => by simp
  | t :: ts, h => by
    have ih := lines_len d0 d1 big ts (fun s hs => h s (List.mem_cons_of_mem _ hs))
    have h1 := lineB_len d0 d1 big (h t (List.mem_cons_self ..))
    simp only [List.map_cons, List.flatten_cons, List.length_append, List.sum_cons]
    omega
theorem wkbs_len : ∀ (ts : List Gm) (os : List Bool), (∀ t ∈ ts, ∀ os, (wkbT t os).1.length ≤ 50 * t.np) → (wkbsT ts os).1.length ≤ 50 * (ts.map Gm.np).sum
  | [], os, _ => by simp [wkbsT]
  | t :: ts, os, h => by
    have ih := wkbs_len ts (wkbT t os).2 (fun s hs => h s (List.mem_cons_of_mem _ hs))
    have h1 := h t (List.mem_cons_self ..) os
    simp only [wkbsT, List.length_append, List.map_cons, List.sum_cons]
    omega
theorem wkb_len {D : Int} (d0 : 0 ≤ D) (d1 : D ≤ 3) {t : Gm} (h : Wf D t) : ∀ os, (wkbT t os).1.length ≤ 50 * t.np := by
  induction h with
  | @pt ns h =>
    intro os
    rw [wkbT_mk, np_mk]
    rw [if_pos rfl]
    have h4 := wd_le4 D d0 d1
    rcases h with rfl | h
    · rw [if_pos rfl]
      have e : ((List.replicate (wd D) (uB (os.headD false) 8 emptyBits)).flatten).length ≤ 32 := by
        simp only [List.length_flatten, List.map_replicate, List.sum_replicate_nat, uB_length]
        omega
      simp only [List.length_append, uB_length]
      generalize ([] : List Nat).length / wd D = z
      simp only [List.length_cons, List.length_nil]
      omega
    · have hne : ns ≠ [] := fun e => by
        rw [e] at h
        have := wd_pos' D
        simp at h
        omega
      rw [if_neg hne]
      simp only [List.length_append, uB_length, numsB_length]
      generalize ns.length / wd D = z
      simp only [List.length_cons, List.length_nil, h]
      omega
  | @ls ns h =>
    intro os
    rw [wkbT_mk, np_mk]
    have h1 := lineB_len d0 d1 (os.headD false) (Wf.ls h)
    rw [np_mk] at h1
    have h2 := nums_np d0 d1 ns.length h
    rw [if_neg (by decide), if_pos rfl]
    have e : (lineB (os.headD false) (.mk 2 D ns [])).length = 4 + 8 * ns.length := by
      show (uB _ 4 (ns.length / wd D) ++ numsB _ ns).length = _
      rw [List.length_append, uB_length, numsB_length]
    simp only [List.length_append, List.length_cons, List.length_nil, uB_length, e]
    omega
  | @parts k ks hk h h2 ih =>
    intro os
    rw [wkbT_mk, np_mk]
    by_cases h3 : k = 3
    · rw [if_neg (by omega), if_neg (by omega), if_pos h3]
      have h4 := lines_len d0 d1 (os.headD false) ks h
      simp only [List.length_append, uB_length]
      generalize ([] : List Nat).length / wd D = z
      simp only [List.length_cons, List.length_nil]
      omega
    · rw [if_neg (by omega), if_neg (by omega), if_neg h3]
      have h4 := wkbs_len ks os.tail ih
      simp only [List.length_append, uB_length]
      generalize ([] : List Nat).length / wd D = z
      simp only [List.length_cons, List.length_nil]
      omega

end Go.Proofs.YtofdccmmagcamaaGreatDoor

/- gAll with any test of numbers that turns nothing: if it says yes, all numbers of the tree pass. -/
set_option maxHeartbeats 8000000
set_option linter.unusedSimpArgs false
set_option linter.unusedVariables false
namespace Go.Proofs.YtofdccmmagcamaaGreatDoor
open Go.RowKit

/-- All numbers pass. -/
inductive AllN (P : Nat → Bool) : Gm → Prop
  | mk {k d : Int} {ns : List Nat} {ks : List Gm} (hb : ∀ b ∈ ns, P b = true) (hk : ∀ t ∈ ks, AllN P t) : AllN P (.mk k d ns ks)

set_option maxRecDepth 100000 in
theorem gAll_of {P : Nat → Bool} (hF : ∀ (b : Nat) (w : World), Calls Tryz.prog 22 #[.float .f64 b] w fun e w' => e = .returned (.bool (P b)) ∧ w' = w) {w : World} {B : Nat} {v : Value} {t : Gm} (h : GmAt w B v t) : t.sz ≤ 2000 → ∀ (W : World), Below B w W → B ≤ W.heap.size →
    Calls Tryz.prog 21 #[v, .func (.func 22) #[] #[]] W fun e W' => ∃ r : Bool, e = .returned (.bool r) ∧ (r = true → AllN P t) ∧ Below W.heap.size W W' := by
  induction h with
  | @mk k d ns ks n m A K c c' us en em hn hb hcap hk hs ih =>
    intro hsz W hbl hB
    have hn2 : n ≤ 2000 ∧ m ≤ 2000 ∧ Gm.szs ks ≤ 2000 := by
      have := szs_len ks
      unfold Gm.sz at hsz
      omega
    obtain ⟨hn2, hm2, hs2⟩ := hn2
    clear hsz
    have hfl : (flV ns).length = n := by rw [flV_length, en]
    have HN := Hd hn
    have HK := Hd hk
    have HI := Hd ih
    have HS := Hd hs
    have HBL := Hd hbl
    have HMM := Hd em
    have HNN := Hd en
    have HFL := Hd hfl
    have hbox := Blk.new W 25 #[.int .i64 k, .int .i64 d, .slice A n c, .slice K m c']
    have HBX := Hd hbox
    clear hn hb hk hs ih hbl en em hfl hbox
    go_enter Tryz.func21, Tryz.ntmps21
    go_wp2
    go_loopw [12] (fun i wr => ∃ (q : Nat), q ≤ n ∧ i = .int .i64 q ∧ (∀ b ∈ ns.take q, P b = true) ∧ wr = (W.alloc (.cells #[.int .i64 k, .int .i64 d, .slice A n c, .slice K m c'] 25))) (fun i _ => n - (intOf i).toNat)
    case atStart => exact ⟨0, Nat.zero_le _, rfl, fun b hb => by simp at hb, rfl⟩
    case round =>
      obtain ⟨q, hq, rfl, hpn, rfl⟩ := hrel
      have HPN := Hd hpn
      clear hpn
      by_cases hlt : q < n
      · obtain ⟨ad, u, rfl, hab, hu, hcell⟩ := HN.out.at_ hlt
        have hbB : Below B W (W.alloc (.cells #[.int .i64 k, .int .i64 d, .slice (some ad) n c, .slice K m c'] 25)) := (Below.refl B W).alloc hB _
        have d0 := (hbB.cell (p := ad.add q) (by rw [block_of_add]; exact hab)).trans ((HBL.out.cell (by rw [block_of_add]; exact hab)).trans hcell)
        have hx : u = .float .f64 (ns.getD q 0) := by
          have hl : q < ns.length := by rw [HNN.out]; exact hlt
          unfold flV at hu
          rw [List.getElem?_map, List.getElem?_eq_getElem hl] at hu
          rw [List.getD_eq_getElem?_getD, List.getElem?_eq_getElem hl]
          simpa using hu.symm
        subst hx
        clear hcell hu
        have htk : ns.take (q + 1) = ns.take q ++ [ns.getD q 0] := by
          rw [take_snoc' ns q (by rw [HNN.out]; exact hlt), List.getD_eq_getElem?_getD, List.getElem?_eq_getElem (by rw [HNN.out]; exact hlt)]
          rfl
        have HTK := Hd htk
        clear htk
        obtain ⟨b, hbq⟩ : ∃ b, b = ns.getD q 0 := ⟨_, rfl⟩
        rw [← hbq] at d0
        have HBQ := Hd hbq
        clear hbq
        obtain ⟨r, hr⟩ : ∃ r, r = P b := ⟨_, rfl⟩
        have hcall := hF b
        rw [← hr] at hcall
        have HCA := Hd hcall
        have HRR := Hd hr
        clear hcall hr
        go_wp2_with fail
        refine (HCA.out _).mono ?_
        rintro e w1 ⟨rfl, rfl⟩
        cases r
        · go_wp2
          go_ret
          exact ⟨false, rfl, fun e => (by cases e), (Below.refl _ W).alloc (Nat.le_refl _) _⟩
        · go_wp2
          go_roundw
          case rel =>
            refine ⟨q + 1, by omega, by go_num, fun x hx => ?_, by first | rfl | trivial⟩
            rw [HTK.out] at hx
            rcases List.mem_append.1 hx with hx | hx
            · exact HPN.out x hx
            · obtain rfl : x = b := by rw [HBQ.out]; simpa using hx
              exact HRR.out.symm
          case measure => simp [intOf]; omega
      · obtain rfl : n = q := by omega
        go_wp2
        go_loopw [24] (fun i wr => ∃ (q : Nat), q ≤ m ∧ i = .int .i64 q ∧ (∀ s ∈ ks.take q, AllN P s) ∧ Below (W.heap.size + 1) (W.alloc (.cells #[.int .i64 k, .int .i64 d, .slice A n c, .slice K m c'] 25)) wr) (fun i _ => m - (intOf i).toNat)
        case atStart => exact ⟨0, Nat.zero_le _, rfl, fun s hs => by simp at hs, Below.refl _ _⟩
        case round =>
          obtain ⟨q, hq, rfl, hpk, hbw⟩ := hrel
          have HPK := Hd hpk
          clear hpk
          have hbB : Below B W wr := ((Below.refl B W).alloc hB _).trans (hbw.mono (by omega))
          have hws : W.heap.size + 1 ≤ wr.heap.size := by have := hbw.size; simpa using this
          by_cases hlt : q < m
          · obtain ⟨ad, rfl, hab, hcell⟩ := HK.out q hlt
            have hcc : ∀ j, j < 4 → wr.cell? (ad.add (q * 4 + j)) = some (us q j) := fun j hj => (hbB.cell (by rw [block_of_add]; exact hab)).trans ((HBL.out.cell (by rw [block_of_add]; exact hab)).trans (hcell j hj))
            obtain ⟨d0, d1, d2, d3⟩ := cells4 hcc
            clear hcc hcell
            have hkq : ks[q]? = some (ks[q]'(by rw [HMM.out]; exact hlt)) := List.getElem?_eq_getElem _
            generalize (ks[q]'(by rw [HMM.out]; exact hlt)) = t at hkq
            obtain ⟨k', d', A', K', n', m', c1, c2, e0, e1, e2, e3⟩ := (HS.out q t hkq).shape
            have hI := HI.out q t hkq (Nat.le_trans (sz_kid hkq) hs2)
            rw [e0] at d0 hI
            rw [e1] at d1 hI
            rw [e2] at d2 hI
            rw [e3] at d3 hI
            have HI2 := Hd hI
            have HKQ := Hd hkq
            clear hkq hI e0 e1 e2 e3
            have hA : Below B w (wr.alloc (.cells #[.int .i64 k', .int .i64 d', .slice A' n' c1, .slice K' m' c2] 25)) := (HBL.out.trans hbB).trans ((Below.refl _ wr).alloc (by omega) _)
            have HA := Hd hA
            clear hA
            go_wp2_with fail
            refine (HI2.out _ HA.out (by simp; omega)).mono ?_
            rintro e w1 ⟨r, rfl, hrt, h1⟩
            have HRT := Hd hrt
            clear hrt
            have hbw1 := hbw.trans (((Below.refl _ wr).alloc hws (.cells #[.int .i64 k', .int .i64 d', .slice A' n' c1, .slice K' m' c2] 25)).trans (h1.mono (by simp; omega)))
            have HW1 := Hd hbw1
            clear hbw1 h1
            cases r
            · go_wp2
              go_ret
              exact ⟨false, rfl, fun e => (by cases e), ((Below.refl _ W).alloc (Nat.le_refl _) _).trans (HW1.out.mono (by omega))⟩
            · go_wp2
              go_roundw
              case rel =>
                refine ⟨q + 1, by omega, by go_num, fun s hs => ?_, HW1.out⟩
                rw [List.take_add_one, HKQ.out, Option.toList_some] at hs
                rcases List.mem_append.1 hs with hs | hs
                · exact HPK.out s hs
                · obtain rfl : s = t := by simpa using hs
                  first | exact HRT.out rfl | exact HRT.out trivial
              case measure => simp [intOf]; omega
          · obtain rfl : m = q := by omega
            go_wp2
            go_ret
            refine ⟨true, rfl, fun _ => ?_, ((Below.refl _ W).alloc (Nat.le_refl _) _).trans (hbw.mono (by omega))⟩
            have h1 := HPN.out
            have h2 := HPK.out
            rw [List.take_of_length_le (by rw [HNN.out]; exact Nat.le_refl _)] at h1
            rw [List.take_of_length_le (by rw [HMM.out]; exact Nat.le_refl _)] at h2
            exact .mk h1 h2


end Go.Proofs.YtofdccmmagcamaaGreatDoor
