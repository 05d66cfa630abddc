import Derived.Test.YtpbcfgehmalppaaGreatDoorMgD
import Derived.Test.YtpbcfgehmalppaaGreatDoorPgQ
import Derived.Test.YtpbcfgehmalppaaGreatDoorWLast
import Derived.Test.YtpbcfgehmalppaaGreatDoorJsM
import Derived.Test.YtpbcfgehmalppaaGreatDoorFtK
import Derived.Test.YtpbcfgehmalppaaGreatDoorTie
import Derived.Test.YtpbcfgehmalppaaGreatDoorCards
import Derived.WalkKit
import Derived.ProofKit
import Derived.OpenShut
import Derived.ChangeOld
import Derived.Below
import Derived.SizedLaws
import Derived.Carry
import Derived.Lay
import Derived.LaidOnce
import Derived.SevenTiedAt
import Derived.Lib.SmallJoins
import Derived.Laws.Cover2
/- What the law FnTextMulti builds its text with: the size of a row of plain data, the texts behind names. -/
namespace Go.Proofs.YtpbcfgehmalppaaGreatDoor
open Go.RowKit

set_option maxHeartbeats 4000000 in
set_option maxRecDepth 100000 in
theorem gSmall_row {w : World} {B n c : Nat} {K : Option Addr} {ks : List Gm} {us : Nat → Nat → Value} (em : ks.length = n) (hn : n ≤ 2147483647)
    (hk : ∀ i, i < n → ∃ ad, K = some ad ∧ ad.block < B ∧ ∀ j, j < 4 → w.cell? (ad.add (i * 4 + j)) = some (us i j)) (hs : ∀ (i : Nat) t, ks[i]? = some t → GmAt w B (.agg #[us i 0, us i 1, us i 2, us i 3]) t) (hB : B ≤ w.heap.size) :
    Calls Tryz.prog 18 #[.slice K n c] w fun e W' => ∃ b : Bool, e = .returned (.bool b) ∧ (b = true → Gm.szs ks ≤ 2000) ∧ Below w.heap.size w W' := by
  have HK := Lib.hid hk
  have HS := Lib.hid hs
  have HMM := Lib.hid em
  clear hk hs em
  go_enter Tryz.func18, Tryz.ntmps18
  go_wp2
  go_loopw [3, 4] (fun l i wr => ∃ (lf : Int) (q : Nat), q ≤ n ∧ l = .int .i64 lf ∧ i = .int .i64 q ∧ (-1 ≤ lf ∧ lf ≤ 1000000000 ∧ (0 ≤ lf → lf + Gm.szs (ks.take q) ≤ 2000)) ∧ Below w.heap.size w wr) (fun _ i _ => n - (intOf i).toNat)
  case atStart => exact ⟨2000, 0, Nat.zero_le _, rfl, rfl, ⟨by omega, by omega, fun _ => by simp [Gm.szs]⟩, Below.refl _ _⟩
  case round =>
    obtain ⟨lf, q, hq, rfl, rfl, ⟨q0, q1, q2⟩, hbw⟩ := hrel
    have HBW := Lib.hid hbw
    clear hbw
    by_cases hlt : q < n
    · by_cases hlf : 0 ≤ lf
      · have hd : decide (0 ≤ lf) = true := decide_eq_true hlf
        obtain ⟨ad, rfl, hab, hcell⟩ := HK.out q hlt
        have hcc : ∀ j, j < 4 → wr.cell? (ad.add (q * 4 + j)) = some (us q j) := fun j hj => (HBW.out.cell (by rw [block_of_add]; omega)).trans (hcell j hj)
        obtain ⟨d0, d1, d2, d3⟩ := cells4 hcc
        clear hcc hcell
        have hkq : ks[q]? = some (ks[q]'(by rw [HMM.out]; exact hlt)) := List.getElem?_eq_getElem _
        generalize (ks[q]'(by rw [HMM.out]; exact hlt)) = t at hkq
        have HKQ := Lib.hid hkq
        clear hkq
        go_wp2_with fail
        refine (gWeight_any (HS.out q t HKQ.out) lf _ (HBW.out.mono hB) (Nat.le_trans hB HBW.out.size) (by omega) (by omega)).mono ?_
        rintro e w1 ⟨r, rfl, ⟨r0, r1, r2⟩, h1⟩
        go_wp2
        go_roundw
        case rel =>
          refine ⟨r, q + 1, by omega, rfl, by go_num, ⟨r0, r1, fun hr => ?_⟩, HBW.out.trans (h1.mono HBW.out.size)⟩
          have := szs_take HKQ.out
          have := r2 hr
          have := q2 hlf
          omega
        case measure => simp [intOf]; omega
      · have hd : decide (0 ≤ lf) = false := decide_eq_false hlf
        go_wp2
        go_ret
        exact .inl ⟨rfl, HBW.out⟩
    · obtain rfl : n = q := by omega
      by_cases hlf : 0 ≤ lf
      · have hd : decide (0 ≤ lf) = true := decide_eq_true hlf
        go_wp2
        go_ret
        refine ⟨true, rfl, fun _ => ?_, HBW.out⟩
        have := q2 hlf
        rw [List.take_of_length_le (by rw [HMM.out]; exact Nat.le_refl _)] at this
        omega
      · have hd : decide (0 ≤ lf) = false := decide_eq_false hlf
        go_wp2
        go_ret
        exact .inl ⟨rfl, HBW.out⟩

theorem xTag_any (k : Int) (k0 : 0 ≤ k) (k1 : k ≤ 3) (w : World) : Calls Tryz.prog 24 #[.int .i64 k] w fun e w' => e = .returned (.string (strOfNums (if k = 0 then [] else [32] ++ dimB k ++ [32]))) ∧ Below w.heap.size w w' := by
  rcases (show k = 0 ∨ k = 1 ∨ k = 2 ∨ k = 3 by omega) with rfl | rfl | rfl | rfl
  all_goals
    go_enter Tryz.func24, Tryz.ntmps24
    go_wp2
    go_ret
    exact ⟨rfl, (Below.refl _ _).alloc (Nat.le_refl _) _⟩

set_option maxHeartbeats 4000000 in
set_option maxRecDepth 100000 in
/-- What stands from the first bracket on. -/
theorem xBody_any (s : ByteArray) (h63 : s.size ≤ 1000000000000) (w : World) (p : Nat) (hp : p ≤ s.size) (hb : ∀ q (hq : q < s.size), q < p → s[q].toNat ≠ 40) (he : ∀ hq : p < s.size, s[p].toNat = 40) :
    Calls Tryz.prog 23 #[.string s] w fun e w' => e = .returned (.string (if p < s.size then s.extract p s.size else strOfNums emptyB)) ∧ w' = w := by
  go_enter Tryz.func23, Tryz.ntmps23
  go_wp2
  go_loopw [3] (fun i wr => ∃ (q : Nat), q ≤ p ∧ i = .int .i64 q ∧ wr = w) (fun i _ => s.size - (intOf i).toNat)
  case atStart => exact ⟨0, Nat.zero_le _, rfl, rfl⟩
  case round =>
    obtain ⟨q, hq, rfl, rfl⟩ := hrel
    by_cases hlt : q < s.size
    · have hx : (q : Int) < (s.size : Int) := by omega
      by_cases hqp : q < p
      · have hne := hb q hlt hqp
        have hne1 : ¬ ((s[q].toNat : Int) = 40) := by omega
        have hne2 : ((s[q].toNat : Int) == 40) = false := by rw [beq_eq_false_iff_ne]; exact hne1
        go_wp2
        go_roundw
        case rel => exact ⟨q + 1, by omega, by go_num, trivial⟩
        case measure => simp [intOf]; omega
      · obtain rfl : q = p := by omega
        have hne1 := he hlt
        have hne2 : ((s[q].toNat : Int) == 40) = true := by rw [beq_iff_eq]; omega
        go_wp2
        go_ret
        all_goals first | exact ⟨rfl, rfl⟩ | (exfalso; omega)
    · obtain rfl : q = p := by omega
      go_wp2
      go_ret
      all_goals first | exact ⟨rfl, rfl⟩ | (exfalso; omega)

set_option maxHeartbeats 4000000 in
set_option maxRecDepth 100000 in
/-- Texts with commas between them, in brackets. -/
theorem xJoin_any {n c : Nat} {A : Option Addr} {ps : List (List Int)} (w : World) (hn : n ≤ 2147483647) (hl : ps.length = n) (hr : Reads w w.heap.size 1 A n (ps.map fun p => .string (strOfNums p))) (hs : (ps.map fun p => p.length + 1).sum ≤ 1000000000000000) :
    Calls Tryz.prog 25 #[.slice A n c] w fun e w' => e = .returned (.string (strOfNums ([40] ++ joinS 44 ps n ++ [41]))) ∧ w' = w := by
  have HR := Lib.hid hr
  clear hr
  go_enter Tryz.func25, Tryz.ntmps25
  go_wp2
  go_loopw [3, 8] (fun t i wr => ∃ (T : ByteArray) (q : Nat), q ≤ n ∧ i = .int .i64 q ∧ t = .string T ∧ T = strOfNums ([40] ++ joinS 44 ps q) ∧ wr = w) (fun _ i _ => n - (intOf i).toNat)
  case atStart => exact ⟨_, 0, Nat.zero_le _, rfl, rfl, rfl, rfl⟩
  case round =>
    obtain ⟨T, q, hq, rfl, rfl, hT, rfl⟩ := hrel
    have hjb : ∀ k, k ≤ n → (joinS 44 ps k).length ≤ 1000000000000000 := fun k hk => Nat.le_trans (joinS_sum 44 ps k (by omega)) (Nat.le_trans (sum_take ps k) hs)
    have hTs : T.size ≤ 1000000000000001 := by
      rw [hT, strOfNums_size, List.length_append]
      have := hjb q hq
      simp only [List.length_cons, List.length_nil]
      omega
    have HTT := Lib.hid hT
    clear hT
    by_cases hlt : q < n
    · obtain ⟨ad, rfl, _, hc⟩ := HR.out.2 (by omega)
      have hpq : ps[q]? = some (ps[q]'(by omega)) := List.getElem?_eq_getElem (by omega)
      obtain ⟨P, hP⟩ : ∃ P, P = strOfNums (ps.getD q []) := ⟨_, rfl⟩
      have c0 : wr.cell? (ad.add q) = some (.string P) := hc q _ (by rw [List.getElem?_map, hpq]; simp [hP, List.getD_eq_getElem?_getD, hpq])
      have hPs : P.size ≤ 1000000000000000 := by
        have h1 := hjb (q + 1) (by omega)
        have h2 : (ps.getD q []).length ≤ (joinS 44 ps (q + 1)).length := by
          unfold joinS
          rw [List.length_append]
          omega
        rw [hP, strOfNums_size]
        omega
      have HP := Lib.hid hP
      clear hP hpq hc hjb
      by_cases h0 : 0 < q
      · have hd : decide (0 < (q : Int)) = true := decide_eq_true (by omega)
        have hs1 : ¬ 9223372036854775807 < T.size + 1 := by omega
        have hs2 : ¬ 9223372036854775807 < T.size + 1 + P.size := by omega
        go_wp2
        go_roundw
        case rel =>
          refine ⟨_, q + 1, by omega, by go_num, rfl, ?_, trivial⟩
          rw [HTT.out, HP.out]
          show strOfNums _ ++ strOfNums [44] ++ strOfNums _ = _
          rw [strOfNums_app, strOfNums_app]
          congr 1
          conv => rhs; unfold joinS
          rw [if_pos h0]
          simp
        case measure => simp [intOf]; omega
      · obtain rfl : q = 0 := by omega
        have hs2 : ¬ 9223372036854775807 < T.size + P.size := by omega
        have c00 : wr.cell? ad = some (.string P) := by simpa [Addr.add] using c0
        go_wp2
        go_roundw
        case rel =>
          refine ⟨_, 1, by omega, by go_num, rfl, ?_, trivial⟩
          rw [HTT.out, HP.out]
          rw [strOfNums_app]
          congr 1
        case measure => simp [intOf]; omega
    · obtain rfl : n = q := by omega
      have hs1 : ¬ 9223372036854775807 < T.size + 1 := by omega
      go_wp2
      go_ret
      refine ⟨?_, rfl⟩
      have e : T ++ ⟨#[41]⟩ = strOfNums ([40] ++ joinS 44 ps n ++ [41]) := by
        rw [HTT.out]
        show strOfNums _ ++ strOfNums [41] = _
        rw [strOfNums_app]
      exact congrArg (fun x => Ending.returned (Value.string x)) e

theorem first_br (h r : List Int) (hh : ∀ b ∈ h, UInt8.ofNat b.toNat ≠ 40) : (∀ q (hq : q < (strOfNums (h ++ r)).size), q < h.length → (strOfNums (h ++ r))[q].toNat ≠ 40) := by
  intro q hq hl e
  have e2 : (strOfNums (h ++ r))[q] = UInt8.ofNat (h[q]'hl).toNat := by
    show (strOfNums (h ++ r)).data[q]'_ = _
    simp only [strOfNums, List.map_append, List.getElem_toArray]
    rw [List.getElem_append_left (by simpa using hl), List.getElem_map]
  rw [e2] at e
  refine hh _ (List.getElem_mem hl) ?_
  apply UInt8.toNat_inj.1
  exact e

end Go.Proofs.YtpbcfgehmalppaaGreatDoor

/- What New makes of parts of one type of coordinates, and its text. -/
namespace Go.Proofs.YtpbcfgehmalppaaGreatDoor
open Go.RowKit

/-- All of one type, and no number over. -/
inductive Sd (D : Int) : Gm → Prop
  | mk {k : Int} {ns : List Nat} {ks : List Gm} (hl : ns.length % wd D = 0) (hk : ∀ t ∈ ks, Sd D t) : Sd D (.mk k D ns ks)
theorem forceT_sd {D : Int} (d0 : 0 ≤ D) (d1 : D ≤ 3) {t : Gm} (h : Sd D t) : forceT D t = t := by
  induction h with
  | @mk k ns ks hl hk ih =>
    rw [forceT_mk]
    have e1 : plsNums D (ptsN D ns (ns.length / wd D)) = ns := forceS_same D d0 d1 ns hl
    have e2 : ks.map (forceT D) = ks := by
      conv => rhs; rw [← List.map_id ks]
      exact List.map_congr_left fun t ht => ih t ht
    rw [e1, e2]
theorem sd_forceT {D : Int} (d0 : 0 ≤ D) (d1 : D ≤ 3) : ∀ t : Gm, Sd D (forceT D t)
  | .mk k d ns ks => by
    rw [forceT_mk]
    refine .mk ?_ (fun t ht => ?_)
    · rw [plsNums_wd D d0 d1]
      exact Nat.mul_mod_left _ _
    · obtain ⟨s, hs, rfl⟩ := List.mem_map.1 ht
      exact sd_forceT d0 d1 s
decreasing_by (have := List.sizeOf_lt_of_mem hs; simp; omega)
theorem sd_newT (t : Gm) (h0 : 0 ≤ (newT t).d) (h1 : (newT t).d ≤ 3) : Sd (newT t).d (newT t) := by
  obtain ⟨k, d, ns, ks⟩ := t
  rw [newT_mk] at h0 h1 ⊢
  split at h0
  · rename_i hk
    rw [if_pos hk]
    refine .mk ?_ (fun t ht => by cases ht)
    show (ns.take (cutL (kindN k) (d % 4) ns.length)).length % wd (d % 4) = 0
    have hc : cutL (kindN k) (d % 4) ns.length ≤ ns.length := by
      unfold cutL
      refine Nat.le_trans (Nat.mul_le_mul_right _ ?_) (Nat.div_mul_le_self _ (wd (d % 4)))
      split
      · exact Nat.min_le_left _ _
      · exact Nat.le_refl _
    rw [List.length_take, Nat.min_eq_left hc]
    unfold cutL
    exact Nat.mul_mod_left _ _
  · rename_i hk
    rw [if_neg hk] at h1 ⊢
    unfold partsT at h0 h1 ⊢
    split at h0
    · rename_i hm
      rw [if_pos hm]
      exact .mk (by simp) (fun t ht => by cases ht)
    · rename_i hm
      rw [if_neg hm] at h1 ⊢
      rw [forceT_d] at h0 h1 ⊢
      exact sd_forceT h0 h1 _

theorem dand_self {D : Int} (d0 : 0 ≤ D) (d1 : D ≤ 3) : dand D D = D ∧ dand 3 D = D := by
  rcases (show D = 0 ∨ D = 1 ∨ D = 2 ∨ D = 3 by omega) with rfl | rfl | rfl | rfl <;> decide
theorem fold_same {D : Int} (d0 : 0 ≤ D) (d1 : D ≤ 3) : ∀ (ms : List Gm) (a : Int), (∀ m ∈ ms, m.d = D) → (a = D ∨ (a = 3 ∧ ms ≠ [])) → ms.foldl (fun a m => dand a m.d) a = D
  | [], a, _, h => by
    rcases h with h | ⟨_, h⟩
    · exact h
    · exact absurd rfl h
  | m :: ms, a, hm, h => by
    rw [List.foldl_cons]
    refine fold_same d0 d1 ms _ (fun x hx => hm x (List.mem_cons_of_mem _ hx)) (.inl ?_)
    rw [hm m (List.mem_cons_self ..)]
    rcases h with rfl | ⟨rfl, _⟩
    · exact (dand_self d0 d1).1
    · exact (dand_self d0 d1).2

/-- Parts of one type and of the right kind are kept as they are. -/
theorem newT_multi {kind D : Int} {ks : List Gm} (hk : kind = 4 ∨ kind = 5 ∨ kind = 6) (d0 : 0 ≤ D) (d1 : D ≤ 3) (hne : ks ≠ []) (hkk : ∀ t ∈ ks, t.k = kidOf kind) (hd : ∀ t ∈ ks, (newT t).d = D) :
    newT (.mk kind 0 [] ks) = .mk kind D [] (ks.map newT) := by
  have e0 : kindN kind = kind := by unfold kindN; rw [if_neg (by omega)]
  have ef : (ks.map newT).filter (keepT kind) = ks.map newT := by
    rw [List.filter_eq_self]
    intro m hm
    obtain ⟨t, ht, rfl⟩ := List.mem_map.1 hm
    have e1 := newT_k t
    rw [hkk t ht] at e1
    unfold keepT
    rw [e1]
    rcases hk with rfl | rfl | rfl <;> decide
  rw [newT_mk, e0, if_neg (by omega), ef]
  unfold partsT
  have hne' : ks.map newT ≠ [] := by simpa using hne
  rw [if_neg hne', fold_same d0 d1 (ks.map newT) 3 (fun m hm => by obtain ⟨t, ht, rfl⟩ := List.mem_map.1 hm; exact hd t ht) (.inr ⟨rfl, hne'⟩), forceT_mk]
  have e2 : (ks.map newT).map (forceT D) = ks.map newT := by
    conv => rhs; rw [← List.map_id (ks.map newT)]
    refine List.map_congr_left fun m hm => ?_
    obtain ⟨t, ht, rfl⟩ := List.mem_map.1 hm
    have e := hd t ht
    have := sd_newT t (by omega) (by omega)
    rw [e] at this
    exact forceT_sd d0 d1 this
  rw [e2]
  simp [ptsN, plsNums]

theorem wkt_multi (hi lo : Nat → Int) {kind D : Int} {ms : List Gm} (hk : kind = 4 ∨ kind = 5 ∨ kind = 6) (hne : ms ≠ []) :
    wktT hi lo (.mk kind D [] ms) = nameB kind ++ (if D = 0 then [] else [32] ++ dimB D ++ [32]) ++ ([40] ++ joinS 44 (ms.map (bodyT hi lo)) ms.length ++ [41]) := by
  have e1 : bodyT hi lo (.mk kind D [] ms) = [40] ++ joinS 44 (ms.map (bodyT hi lo)) ms.length ++ [41] := by
    rw [bodyT_mk]
    unfold partsB listB
    have e2 : ms.map (partT hi lo kind) = ms.map (bodyT hi lo) := List.map_congr_left fun m _ => by
      unfold partT
      rw [if_neg (by omega)]
    rw [e2]
    have e3 : (ptsN D [] (([] : List Nat).length / wd D)).map (placeT hi lo D) = [] := by simp [ptsN]
    rw [e3, List.nil_append, if_neg (by simpa using hne), List.length_map]
  unfold wktT headT
  rw [e1]
  have hq : ((strOfNums ([40] ++ joinS 44 (ms.map (bodyT hi lo)) ms.length ++ [41])).toList == [69, 77, 80, 84, 89]) = false := by
    rw [beq_eq_false_iff_ne]
    intro e
    rw [ByteArray.toList_eq] at e
    have := congrArg (fun l => l[0]?) e
    simp [strOfNums] at this
  show ((if D = 0 then nameB kind else nameB kind ++ ([32] ++ dimB D)) ++ (if D ≠ 0 ∨ _ then [32] else []) ++ _) = _
  rw [hq]
  by_cases h : D = 0
  · simp [h]
  · simp [h]

/-- What a text begins with: no bracket. -/
def preT (t : Gm) (e : Bool) : List Int := (if t.d = 0 then nameB t.k else nameB t.k ++ ([32] ++ dimB t.d)) ++ (if t.d ≠ 0 ∨ e = true then [32] else [])
theorem preT_no (t : Gm) (e : Bool) : ∀ b ∈ preT t e, UInt8.ofNat b.toNat ≠ 40 := by
  have hn : ∀ b ∈ nameB t.k, UInt8.ofNat b.toNat ≠ 40 := by
    unfold nameB
    repeat' split
    all_goals decide
  have hd : ∀ b ∈ dimB t.d, UInt8.ofNat b.toNat ≠ 40 := by
    unfold dimB
    repeat' split
    all_goals decide
  have h32 : ∀ b ∈ ([32] : List Int), UInt8.ofNat b.toNat ≠ 40 := by decide
  intro b hb
  unfold preT at hb
  rcases List.mem_append.1 hb with hb | hb
  · split at hb
    · exact hn b hb
    · rcases List.mem_append.1 hb with hb | hb
      · exact hn b hb
      · rcases List.mem_append.1 hb with hb | hb
        · exact h32 b hb
        · exact hd b hb
  · split at hb
    · exact h32 b hb
    · cases hb
theorem str_extract (h r : List Int) : (strOfNums (h ++ r)).extract h.length (strOfNums (h ++ r)).size = strOfNums r := by
  apply ByteArray.ext
  rw [ByteArray.data_extract]
  simp [strOfNums, ByteArray.size]
  rw [List.take_of_length_le (by simp)]

theorem xBody_wkt (hi lo : Nat → Int) (t : Gm) (hl : (wktT hi lo t).length ≤ 1000000000000) (w : World) :
    Calls Tryz.prog 23 #[.string (strOfNums (wktT hi lo t))] w fun e w' => e = .returned (.string (strOfNums (bodyT hi lo t))) ∧ w' = w := by
  have e0 : wktT hi lo t = preT t ((strOfNums (bodyT hi lo t)).toList == [69, 77, 80, 84, 89]) ++ bodyT hi lo t := rfl
  have hno := preT_no t ((strOfNums (bodyT hi lo t)).toList == [69, 77, 80, 84, 89])
  generalize preT t ((strOfNums (bodyT hi lo t)).toList == [69, 77, 80, 84, 89]) = h at e0 hno
  have hb : bodyT hi lo t = emptyB ∨ ∃ r, bodyT hi lo t = 40 :: r := by
    obtain ⟨k, d, ns, ks⟩ := t
    rw [bodyT_mk]
    unfold listB
    split
    · exact .inl rfl
    · exact .inr ⟨_, rfl⟩
  rw [e0] at hl ⊢
  rcases hb with hb | ⟨r, hb⟩
  · rw [hb] at hl ⊢
    have h3 : ∀ b ∈ emptyB, UInt8.ofNat b.toNat ≠ 40 := by decide
    have hno2 : ∀ b ∈ h ++ emptyB, UInt8.ofNat b.toNat ≠ 40 := fun b hm => by
      rcases List.mem_append.1 hm with hm | hm
      · exact hno b hm
      · exact h3 b hm
    have hf := first_br (h ++ emptyB) [] hno2
    rw [List.append_nil] at hf
    refine (xBody_any (strOfNums (h ++ emptyB)) (by rw [strOfNums_size]; exact hl) w (strOfNums (h ++ emptyB)).size (Nat.le_refl _) (fun q hq hl => hf q hq (by rwa [strOfNums_size] at hl)) (fun hq => absurd hq (Nat.lt_irrefl _))).mono ?_
    rintro e w' ⟨rfl, rfl⟩
    rw [if_neg (Nat.lt_irrefl _)]
    exact ⟨rfl, rfl⟩
  · rw [hb] at hl ⊢
    have hf := first_br h (40 :: r) hno
    have hlt : h.length < (strOfNums (h ++ 40 :: r)).size := by rw [strOfNums_size]; simp
    refine (xBody_any (strOfNums (h ++ 40 :: r)) (by rw [strOfNums_size]; exact hl) w h.length (Nat.le_of_lt hlt) hf (fun hq => ?_)).mono ?_
    · have e2 : (strOfNums (h ++ 40 :: r))[h.length] = 40 := by
        show (strOfNums (h ++ 40 :: r)).data[h.length]'_ = _
        simp only [strOfNums, List.map_append, List.getElem_toArray]
        rw [List.getElem_append_right (by simp)]
        simp
      rw [e2]
      rfl
    · rintro e w' ⟨rfl, rfl⟩
      rw [if_pos hlt, str_extract]
      exact ⟨rfl, rfl⟩

end Go.Proofs.YtpbcfgehmalppaaGreatDoor

/- The law FnTextMulti: whatever the kind and the row of plain data, it returns true and turns nothing that was there. -/
namespace Go.Proofs.YtpbcfgehmalppaaGreatDoor
open Go.RowKit Go.Proofs.YtpbcfgehmalppaaGreatDoorW.PrintLast

theorem numt_at {w : World} {B : Nat} {v : Value} {t : Gm} (h : GmAt w B v t) : NumT t := by
  induction h with
  | mk en em hn hb hcap hk hs ih =>
    refine .mk hb (fun t ht => ?_)
    obtain ⟨q, hq, rfl⟩ := List.mem_iff_getElem.1 ht
    exact ih q _ (List.getElem?_eq_getElem hq)
theorem numt_force (dim : Int) : ∀ t : Gm, NumT t → NumT (forceT dim t)
  | .mk k d ns ks => fun h => by
    cases h with
    | mk hb hk =>
      rw [forceT_mk]
      refine .mk (plsNums_lt dim d ns _ hb) (fun t ht => ?_)
      obtain ⟨s, hs, rfl⟩ := List.mem_map.1 ht
      exact numt_force dim s (hk s hs)
decreasing_by (have := List.sizeOf_lt_of_mem hs; simp; omega)
theorem numt_newT : ∀ t : Gm, NumT t → NumT (newT t)
  | .mk k d ns ks => fun h => by
    cases h with
    | mk hb hk =>
      rw [newT_mk]
      split
      · exact .mk (fun b hb' => hb b (List.mem_of_mem_take hb')) (fun t ht => by cases ht)
      · unfold partsT
        split
        · exact .mk (fun b hb => by cases hb) (fun t ht => by cases ht)
        · refine numt_force _ _ (.mk (fun b hb => by cases hb) (fun t ht => ?_))
          obtain ⟨hm, _⟩ := List.mem_filter.1 ht
          obtain ⟨s, hs, rfl⟩ := List.mem_map.1 hm
          exact numt_newT s (hk s hs)
decreasing_by (have := List.sizeOf_lt_of_mem hs; simp; omega)

def partsP (hi lo : Nat → Int) (ks : List Gm) : List (List Int) := ks.map fun t => bodyT hi lo (newT t)
theorem partsP_sum (hi lo : Nat → Int) : ∀ ks : List Gm, (∀ t ∈ ks, NumT t) → Gm.szs ks ≤ 100000 → ((partsP hi lo ks).map fun p => p.length + 1).sum ≤ 9000 * Gm.szs ks
  | [], _, _ => by simp [partsP]
  | t :: ks, hn, hs => by
    unfold Gm.szs at hs ⊢
    have ih := partsP_sum hi lo ks (fun t ht => hn t (List.mem_cons_of_mem _ ht)) (by omega)
    have h1 := bodyT_len hi lo (numt_newT t (hn t (List.mem_cons_self ..)))
    have h2 := np_newT t (by omega)
    unfold partsP at ih ⊢
    simp only [List.map_cons, List.sum_cons]
    omega
theorem wkt_len (hi lo : Nat → Int) {t : Gm} (h : NumT t) (hs : t.sz ≤ 100000) : (wktT hi lo (newT t)).length ≤ 1000000000 := by
  have h1 := bodyT_len hi lo (numt_newT t h)
  have h2 := np_newT t hs
  have h3 := headT_len (newT t) (bodyT hi lo (newT t))
  unfold wktT
  omega

theorem cells40 {w : World} {ad : Addr} {f : Nat → Value} (h : ∀ j, j < 4 → w.cell? (ad.add (0 * 4 + j)) = some (f j)) :
    w.cell? ad = some (f 0) ∧ w.cell? ⟨ad.block, ad.off + 1, none⟩ = some (f 1) ∧ w.cell? ⟨ad.block, ad.off + 2, none⟩ = some (f 2) ∧ w.cell? ⟨ad.block, ad.off + 3, none⟩ = some (f 3) := by
  have e : ad.add (0 * 4) = ad := by simp [Addr.add]
  have := cells4 (q := 0) h
  rwa [e] at this

set_option maxHeartbeats 16000000 in
set_option maxRecDepth 100000 in
theorem FnTextMulti_law {w : World} {B n c : Nat} {kind : Int} {L : Option Addr} {ks : List Gm} {us : Nat → Nat → Value} (hi lo : Nat → Int) (ht : FtTabs w hi lo) (em : ks.length = n)
    (hk : ∀ i, i < n → ∃ ad, L = some ad ∧ ad.block < B ∧ ∀ j, j < 4 → w.cell? (ad.add (i * 4 + j)) = some (us i j)) (hs : ∀ (i : Nat) t, ks[i]? = some t → GmAt w B (.agg #[us i 0, us i 1, us i 2, us i 3]) t) (hB : B ≤ w.heap.size) :
    Calls Tryz.prog 8 #[.int .i64 kind, .slice L n c] w fun e w' => e = .returned (.bool true) ∧ Below w.heap.size w w' := by
  by_cases hn : 2147483647 < n
  · clear hk hs
    go_enter Tryz.func8, Tryz.ntmps8
    go_wp2
    go_ret
    exact ⟨rfl, Below.refl _ _⟩
  have HGS := Lib.hid (gSmall_row (c := c) em (by omega) hk hs hB)
  by_cases hn0 : n = 0
  · clear hk hs
    subst hn0
    go_enter Tryz.func8, Tryz.ntmps8
    go_wp2_with fail
    refine HGS.out.mono ?_
    rintro e w1 ⟨b, rfl, -, h1⟩
    cases b
    · go_wp2
      go_ret
      exact ⟨rfl, h1⟩
    · go_wp2
      go_ret
      exact ⟨rfl, h1⟩
  have hnn : ((n : Int) == 0) = false := by rw [beq_eq_false_iff_ne]; omega
  by_cases hk4 : kind < 4
  · clear hk hs
    have d4 : decide (kind < 4) = true := decide_eq_true hk4
    go_enter Tryz.func8, Tryz.ntmps8
    go_wp2_with fail
    refine HGS.out.mono ?_
    rintro e w1 ⟨b, rfl, -, h1⟩
    cases b
    · go_wp2
      go_ret
      exact ⟨rfl, h1⟩
    · go_wp2
      go_ret
      exact ⟨rfl, h1⟩
  have d4 : decide (kind < 4) = false := decide_eq_false hk4
  by_cases hk6 : 6 < kind
  · clear hk hs
    have d6 : decide (6 < kind) = true := decide_eq_true hk6
    go_enter Tryz.func8, Tryz.ntmps8
    go_wp2_with fail
    refine HGS.out.mono ?_
    rintro e w1 ⟨b, rfl, -, h1⟩
    cases b
    · go_wp2
      go_ret
      exact ⟨rfl, h1⟩
    · go_wp2
      go_ret
      exact ⟨rfl, h1⟩
  have d6 : decide (6 < kind) = false := decide_eq_false hk6
  have hpos : 0 < n := by omega
  obtain ⟨ad, rfl, hab, -⟩ := hk 0 hpos
  have hk' : ∀ i, i < n → ∀ j, j < 4 → w.cell? (ad.add (i * 4 + j)) = some (us i j) := fun i hin => by
    obtain ⟨ad', e, _, h⟩ := hk i hin
    cases e
    exact h
  have hz0 : ks[0]? = some (ks[0]'(by omega)) := List.getElem?_eq_getElem (by omega)
  have hgz := hs 0 _ hz0
  obtain ⟨zk, zd, zA, zK, zn, zm, zc, zc', z0, z1, z2, z3⟩ := hgz.shape
  rw [z0, z1, z2, z3] at hgz
  have hcl : ∀ W', Below B w W' → W'.cell? ad = some (.int .i64 zk) ∧ W'.cell? ⟨ad.block, ad.off + 1, none⟩ = some (.int .i64 zd) ∧ W'.cell? ⟨ad.block, ad.off + 2, none⟩ = some (.slice zA zn zc) ∧ W'.cell? ⟨ad.block, ad.off + 3, none⟩ = some (.slice zK zm zc') := fun W' hb => by
    have h := cells40 (f := us 0) (fun j hj => (hb.cell (by rw [block_of_add]; exact hab)).trans (hk' 0 (by omega) j hj))
    rw [z0, z1, z2, z3] at h
    exact h
  have hmG : GmAt w B (.agg #[.int .i64 kind, .int .i64 0, .slice none 0 0, .slice (some ad) n c]) (.mk kind 0 [] ks) := .mk (us := us) rfl em Reads.none_ (fun b hb => by cases hb) (Nat.le_refl _) hk hs
  have hnum : ∀ t ∈ ks, NumT t := fun t ht => by
    obtain ⟨q, hq, rfl⟩ := List.mem_iff_getElem.1 ht
    exact numt_at (hs q _ (List.getElem?_eq_getElem hq))
  have HK := Lib.hid hk'
  have HS := Lib.hid hs
  have HCL := Lib.hid hcl
  have HMG := Lib.hid hmG
  have HNUM := Lib.hid hnum
  have HGZ := Lib.hid hgz
  have HZ0 := Lib.hid hz0
  have HMM := Lib.hid em
  have HT := Lib.hid ht
  clear hk hk' hs hcl hmG hnum hgz hz0 z0 z1 z2 z3
  generalize ks[0]'(by omega) = tz at HGZ HZ0
  clear em ht
  obtain ⟨D, hD⟩ : ∃ D, D = (newT tz).d := ⟨_, rfl⟩
  obtain ⟨kd, hkd⟩ : ∃ kd, kd = kidOf kind := ⟨_, rfl⟩
  have HKO : Hid (∀ W, Calls Tryz.prog 21 #[.int .i64 kind] W fun e w' => e = .returned (.int .i64 kd) ∧ w' = W) := Lib.hid (by rw [hkd]; exact KidOf_any kind (by omega) (by omega))
  have HD := Lib.hid hD
  have HKD := Lib.hid hkd
  clear hD hkd
  go_enter Tryz.func8, Tryz.ntmps8
  go_wp2_with fail
  refine HGS.out.mono ?_
  rintro e w1 ⟨b, rfl, hsz, h1⟩
  cases b
  · go_wp2
    go_ret
    exact ⟨rfl, h1⟩
  replace hsz := hsz rfl
  have H1 := Lib.hid h1
  have HSZ := Lib.hid hsz
  have htz : tz.sz ≤ 2000 := Nat.le_trans (sz_kid HZ0.out) hsz
  have HCZ : Hid (∀ W, Below w.heap.size w W → Calls Tryz.prog 22 #[.agg #[.int .i64 zk, .int .i64 zd, .slice zA zn zc, .slice zK zm zc']] W fun e w' => e = .returned (.int .i64 D) ∧ Below W.heap.size W w') := Lib.hid fun W hb => by
    rw [HD.out]
    exact CoordType_G HGZ.out (by omega) W (hb.mono hB) (Nat.le_trans hB hb.size)
  clear h1 hsz
  go_wp2_with fail
  go_loopw [5, 31] (fun tx i wr => ∃ (q : Nat), q ≤ n ∧ i = .int .i64 q ∧ Rw 9 w1 wr none tx (strsV ((partsP hi lo ks).take q)) ∧ ∀ t ∈ ks.take q, t.k = kd ∧ (newT t).d = D) (fun _ i _ => n - (intOf i).toNat)
  case atStart => exact ⟨0, Nat.zero_le _, rfl, Rw.nil _ _, fun t ht => by cases ht⟩
  case round =>
    obtain ⟨q, hq, rfl, hrw, hfa⟩ := hrel
    have HRW := Lib.hid hrw
    have HFA := Lib.hid hfa
    have HBW := Lib.hid (H1.out.trans (hrw.below0.mono H1.out.size))
    clear hrw hfa
    by_cases hlt : q < n
    · have hkq : ks[q]? = some (ks[q]'(by rw [HMM.out]; exact hlt)) := List.getElem?_eq_getElem _
      generalize (ks[q]'(by rw [HMM.out]; exact hlt)) = t at hkq
      have hgq := HS.out q t hkq
      obtain ⟨xk, xd, xA, xK, xn, xm, xc, xc', e0, e1, e2, e3⟩ := hgq.shape
      have hcc := cells4 (f := us q) (fun j hj => (HBW.out.cell (by rw [block_of_add]; omega)).trans (HK.out q hlt j hj))
      rw [e0, e1, e2, e3] at hgq hcc
      obtain ⟨c0, c1, c2, c3⟩ := hcc
      have hkx : t.k = xk := gmAt_k hgq
      have htq : t.sz ≤ 2000 := Nat.le_trans (sz_kid hkq) HSZ.out
      have HGQ := Lib.hid hgq
      have HKQ := Lib.hid hkq
      have HKX := Lib.hid hkx
      clear hgq hkq hkx e0 e1 e2 e3
      obtain ⟨dq, hdq⟩ : ∃ dq, dq = (newT t).d := ⟨_, rfl⟩
      have HCQ : Hid (∀ W, Below w.heap.size w W → Calls Tryz.prog 22 #[.agg #[.int .i64 xk, .int .i64 xd, .slice xA xn xc, .slice xK xm xc']] W fun e w' => e = .returned (.int .i64 dq) ∧ Below W.heap.size W w') := Lib.hid fun W hb => by
        rw [hdq]
        exact CoordType_G HGQ.out (by omega) W (hb.mono hB) (Nat.le_trans hB hb.size)
      have HDQ := Lib.hid hdq
      clear hdq
      go_wp2_with fail
      have BX0 := Lib.hid (Blk.drew (Blk.new wr 25 #[.int .i64 xk, .int .i64 xd, .slice xA xn xc, .slice xK xm xc']))
      have HB0 := Lib.hid (Below.drew (HBW.out.alloc HBW.out.size (.cells #[.int .i64 xk, .int .i64 xd, .slice xA xn xc, .slice xK xm xc'] 25)))
      have HR0 := Lib.hid ((HRW.out.alloc (.cells #[.int .i64 xk, .int .i64 xd, .slice xA xn xc, .slice xK xm xc'] 25)).drewN 1)
      clear c0 c1 c2 c3
      by_cases hkk : xk = kd
      · subst hkk
        by_cases hdd : dq = D
        · subst hdd
          refine start_ (n := 14) (S := fun w' => w'.cell? ⟨wr.heap.size, 0, none⟩ = some (.int .i64 xk) ∧ w'.cell? ⟨wr.heap.size, 1, none⟩ = some (.int .i64 xd) ∧ w'.cell? ⟨wr.heap.size, 2, none⟩ = some (.slice xA xn xc) ∧ w'.cell? ⟨wr.heap.size, 3, none⟩ = some (.slice xK xm xc') ∧ w'.cell? ad = some (.int .i64 zk) ∧ w'.cell? ⟨ad.block, ad.off + 1, none⟩ = some (.int .i64 zd) ∧ w'.cell? ⟨ad.block, ad.off + 2, none⟩ = some (.slice zA zn zc) ∧ w'.cell? ⟨ad.block, ad.off + 3, none⟩ = some (.slice zK zm zc')) (ds := []) #[false, false, false, false, false, false, false, false, false, false, false, false, false, false] (by kernel_rfl) rfl rfl ⟨(BX0.out.cell 0).trans rfl, (BX0.out.cell 1).trans rfl, (BX0.out.cell 2).trans rfl, (BX0.out.cell 3).trans rfl, (HCL.out _ (HB0.out.mono hB)).1, (HCL.out _ (HB0.out.mono hB)).2.1, (HCL.out _ (HB0.out.mono hB)).2.2.1, (HCL.out _ (HB0.out.mono hB)).2.2.2⟩ (fun hHeld => ?_)
          refine pure_ (i := 0) (N := some 35) (v := ?_) (a' := ?_) #[true, false, false, false, false, false, false, false, false, false, false, false, false, false] rfl rfl (by kernel_rfl) (fun _ _ _ h => h) (Or.inl ⟨by rfl, ?_⟩) ?_ ?_
          rotate_left
          · intro w'
            go_simp
            with_reducible rfl
          rotate_left
          · simp only [Act.put, List.setIfInBounds_toArray, List.set_cons_zero, List.set_cons_succ]
            rfl
          refine pure_ (i := 2) (N := some 37) (v := ?_) (a' := ?_) #[true, false, true, false, false, false, false, false, false, false, false, false, false, false] rfl rfl (by kernel_rfl) (fun _ _ _ h => h) (Or.inl ⟨by rfl, ?_⟩) ?_ ?_
          rotate_left
          · intro w'
            go_simp
            with_reducible rfl
          rotate_left
          · simp only [Act.put, List.setIfInBounds_toArray, List.set_cons_zero, List.set_cons_succ]
            rfl
          refine take_ (i := 1) (N := some 36) (v := ?_) (a' := ?_) #[true, true, true, false, false, false, false, false, false, false, false, false, false, false] rfl rfl (by kernel_rfl) (fun _ _ _ h => h) (Or.inl ⟨by rfl, ?_⟩) hHeld ?_ ?_
          rotate_left
          · rintro w' ⟨s0, s1, s2, s3, s4, s5, s6, s7⟩
            go_simp
            with_reducible rfl
          rotate_left
          · simp only [Act.put, List.setIfInBounds_toArray, List.set_cons_zero, List.set_cons_succ]
            rfl
          refine one_ (i := 3) (N := some 38) #[true, true, true, true, false, false, false, false, false, false, false, false, false, false] rfl rfl (by kernel_rfl) (by decide) (fun K hK => ?_)
          refine goes_ Tryz.func21 (by kernel_rfl) rfl #[.int .i64 kind] (by rfl) rfl rfl (by simp only [List.map_toArray, List.map_cons, List.map_nil]; rfl) ?_
          with_reducible refine (HKO.out _).mono ?_
          rintro e w5 ⟨rfl, rfl⟩
          refine ⟨_, rfl, ?_⟩
          refine hK.out _ _ ⟨(BX0.out.cell 0).trans rfl, (BX0.out.cell 1).trans rfl, (BX0.out.cell 2).trans rfl, (BX0.out.cell 3).trans rfl, (HCL.out _ (HB0.out.mono hB)).1, (HCL.out _ (HB0.out.mono hB)).2.1, (HCL.out _ (HB0.out.mono hB)).2.2.1, (HCL.out _ (HB0.out.mono hB)).2.2.2⟩ (fun hHeld => ?_)
          clear hK K
          refine norm_ (a' := ?_) ?_ ?_
          rotate_left
          · show Act.put _ (some 38) _ = _
            simp only [Act.put, List.setIfInBounds_toArray, List.set_cons_zero, List.set_cons_succ]
            rfl
          refine pure_ (i := 4) (N := some 39) (v := ?_) (a' := ?_) #[true, true, true, true, true, false, false, false, false, false, false, false, false, false] rfl rfl (by kernel_rfl) (fun _ _ _ h => h) (Or.inl ⟨by rfl, ?_⟩) ?_ ?_
          rotate_left
          · intro w'
            go_simp
            with_reducible rfl
          rotate_left
          · simp only [Act.put, List.setIfInBounds_toArray, List.set_cons_zero, List.set_cons_succ]
            rfl
          refine pure_ (i := 5) (N := some 40) (v := ?_) (a' := ?_) #[true, true, true, true, true, true, false, false, false, false, false, false, false, false] rfl rfl (by kernel_rfl) (fun _ _ _ h => h) (Or.inl ⟨by rfl, ?_⟩) ?_ ?_
          rotate_left
          · intro w'
            go_simp
            with_reducible rfl
          rotate_left
          · simp only [Act.put, List.setIfInBounds_toArray, List.set_cons_zero, List.set_cons_succ]
            rfl
          refine pure_ (i := 8) (N := some 43) (v := ?_) (a' := ?_) #[true, true, true, true, true, true, false, false, true, false, false, false, false, false] rfl rfl (by kernel_rfl) (fun _ _ _ h => h) (Or.inl ⟨by rfl, ?_⟩) ?_ ?_
          rotate_left
          · intro w'
            go_simp
            with_reducible rfl
          rotate_left
          · simp only [Act.put, List.setIfInBounds_toArray, List.set_cons_zero, List.set_cons_succ]
            rfl
          refine pure_ (i := 9) (N := some 44) (v := ?_) (a' := ?_) #[true, true, true, true, true, true, false, false, true, true, false, false, false, false] rfl rfl (by kernel_rfl) (fun _ _ _ h => h) (Or.inl ⟨by rfl, ?_⟩) ?_ ?_
          rotate_left
          · intro w'
            go_simp
            with_reducible rfl
          rotate_left
          · simp only [Act.put, List.setIfInBounds_toArray, List.set_cons_zero, List.set_cons_succ]
            rfl
          refine take_ (i := 6) (N := some 41) (v := ?_) (a' := ?_) #[true, true, true, true, true, true, true, false, true, true, false, false, false, false] rfl rfl (by kernel_rfl) (fun _ _ _ h => h) (Or.inl ⟨by rfl, ?_⟩) hHeld ?_ ?_
          rotate_left
          · rintro w' ⟨s0, s1, s2, s3, s4, s5, s6, s7⟩
            go_simp
            with_reducible rfl
          rotate_left
          · simp only [Act.put, List.setIfInBounds_toArray, List.set_cons_zero, List.set_cons_succ]
            rfl
          refine take_ (i := 10) (N := some 45) (v := ?_) (a' := ?_) #[true, true, true, true, true, true, true, false, true, true, true, false, false, false] rfl rfl (by kernel_rfl) (fun _ _ _ h => h) (Or.inl ⟨by rfl, ?_⟩) hHeld ?_ ?_
          rotate_left
          · rintro w' ⟨s0, s1, s2, s3, s4, s5, s6, s7⟩
            go_simp
            with_reducible rfl
          rotate_left
          · simp only [Act.put, List.setIfInBounds_toArray, List.set_cons_zero, List.set_cons_succ]
            rfl
          refine one_ (i := 7) (N := some 42) #[true, true, true, true, true, true, true, true, true, true, true, false, false, false] rfl rfl (by kernel_rfl) (by decide) (fun K hK => ?_)
          refine goes_ Tryz.func22 (by kernel_rfl) rfl #[.agg #[.int .i64 xk, .int .i64 xd, .slice xA xn xc, .slice xK xm xc']] (by rfl) rfl rfl (by simp only [List.map_toArray, List.map_cons, List.map_nil]; rfl) ?_
          with_reducible refine (HCQ.out _ HB0.out).mono ?_
          rintro e w6 ⟨rfl, h6⟩
          refine ⟨_, rfl, ?_⟩
          have HB6 := Lib.hid (HB0.out.trans (h6.mono HB0.out.size))
          have BX6 := Lib.hid (BX0.out.below h6 BX0.out.lt)
          have HR6 := Lib.hid (HR0.out.below h6)
          clear h6
          refine hK.out _ _ ⟨(BX6.out.cell 0).trans rfl, (BX6.out.cell 1).trans rfl, (BX6.out.cell 2).trans rfl, (BX6.out.cell 3).trans rfl, (HCL.out _ (HB6.out.mono hB)).1, (HCL.out _ (HB6.out.mono hB)).2.1, (HCL.out _ (HB6.out.mono hB)).2.2.1, (HCL.out _ (HB6.out.mono hB)).2.2.2⟩ (fun hHeld => ?_)
          clear hK K
          refine norm_ (a' := ?_) ?_ ?_
          rotate_left
          · show Act.put _ (some 42) _ = _
            simp only [Act.put, List.setIfInBounds_toArray, List.set_cons_zero, List.set_cons_succ]
            rfl
          refine one_ (i := 11) (N := some 46) #[true, true, true, true, true, true, true, true, true, true, true, true, false, false] rfl rfl (by kernel_rfl) (by decide) (fun K hK => ?_)
          refine goes_ Tryz.func22 (by kernel_rfl) rfl #[.agg #[.int .i64 zk, .int .i64 zd, .slice zA zn zc, .slice zK zm zc']] (by rfl) rfl rfl (by simp only [List.map_toArray, List.map_cons, List.map_nil]; rfl) ?_
          with_reducible refine (HCZ.out _ HB6.out).mono ?_
          rintro e w7 ⟨rfl, h7⟩
          refine ⟨_, rfl, ?_⟩
          have HB7 := Lib.hid (HB6.out.trans (h7.mono HB6.out.size))
          have BX7 := Lib.hid (BX6.out.below h7 BX6.out.lt)
          have HR7 := Lib.hid (HR6.out.below h7)
          clear h7
          refine hK.out _ _ ⟨(BX7.out.cell 0).trans rfl, (BX7.out.cell 1).trans rfl, (BX7.out.cell 2).trans rfl, (BX7.out.cell 3).trans rfl, (HCL.out _ (HB7.out.mono hB)).1, (HCL.out _ (HB7.out.mono hB)).2.1, (HCL.out _ (HB7.out.mono hB)).2.2.1, (HCL.out _ (HB7.out.mono hB)).2.2.2⟩ (fun hHeld => ?_)
          clear hK K
          refine norm_ (a' := ?_) ?_ ?_
          rotate_left
          · show Act.put _ (some 46) _ = _
            simp only [Act.put, List.setIfInBounds_toArray, List.set_cons_zero, List.set_cons_succ]
            rfl
          refine pure_ (i := 12) (N := some 47) (v := ?_) (a' := ?_) #[true, true, true, true, true, true, true, true, true, true, true, true, true, false] rfl rfl (by kernel_rfl) (fun _ _ _ h => h) (Or.inl ⟨by rfl, ?_⟩) ?_ ?_
          rotate_left
          · intro w'
            go_simp
            with_reducible rfl
          rotate_left
          · simp only [Act.put, List.setIfInBounds_toArray, List.set_cons_zero, List.set_cons_succ]
            rfl
          refine pure_ (i := 13) (N := some 48) (v := ?_) (a' := ?_) #[true, true, true, true, true, true, true, true, true, true, true, true, true, true] rfl rfl (by kernel_rfl) (fun _ _ _ h => h) (Or.inl ⟨by rfl, ?_⟩) ?_ ?_
          rotate_left
          · intro w'
            go_simp
            with_reducible rfl
          rotate_left
          · simp only [Act.put, List.setIfInBounds_toArray, List.set_cons_zero, List.set_cons_succ]
            rfl
          refine done_ (by kernel_rfl) ?_
          have HLQ := Lib.hid (wkt_len hi lo (HNUM.out t (List.mem_of_getElem? HKQ.out)) (by omega))
          have HWQ := Lib.hid (WriteWKT_G hi lo HGQ.out (by omega) w7 (HB7.out.mono hB) (Nat.le_trans hB HB7.out.size) (HT.out.below HB7.out))
          have hxb := fun W => xBody_wkt hi lo (newT t) (Nat.le_trans HLQ.out (by omega)) W
          obtain ⟨T, hT⟩ : ∃ T, T = strOfNums (bodyT hi lo (newT t)) := ⟨_, rfl⟩
          rw [← hT] at hxb
          have HXB := Lib.hid hxb
          have HTT := Lib.hid hT
          clear hxb hT
          have b0 := BX7.out.cell 0
          have b1 := BX7.out.cell 1
          have b2 := BX7.out.cell 2
          have b3 := BX7.out.cell 3
          simp at b0 b1 b2 b3
          obtain ⟨i0, hi0, hz0, hz1, hz2⟩ := info_parts info_str
          have hxl : (strsV ((partsP hi lo ks).take q)).length ≤ 2147483647 := by
            rw [strsV_length, List.length_take]
            omega
          go_wp2_with fail
          refine HWQ.out.mono ?_
          rintro e w8 ⟨rfl, h8⟩
          have HR8 := Lib.hid (HR7.out.below h8)
          clear h8 b0 b1 b2 b3
          go_wp2_with fail
          refine (HXB.out _).mono ?_
          rintro e w9 ⟨rfl, rfl⟩
          have hr8 := HR8.out
          go_wp2_with (at_builtin; refine wpList_rw_append rfl _ _ _ rfl Tryz.underlying36 hi0 hz0 rfl hz1 hz2 rfl rfl (by assumption) (by first | rfl | simp) rfl (by simp [Value.oneCell']) (by first | omega | (simp only [List.length_cons, List.length_nil, maxLen]; omega)) (by first | omega | (simp only [List.length_cons, List.length_nil]; omega)) ?_; intro v1 W1 h2)
          go_roundw
          case rel =>
            have e1 : (partsP hi lo ks).take (q + 1) = (partsP hi lo ks).take q ++ [bodyT hi lo (newT t)] := by
              unfold partsP
              rw [← List.map_take, ← List.map_take, List.take_add_one, HKQ.out, Option.toList_some, List.map_append]
              rfl
            refine ⟨q + 1, by omega, by go_num, ?_, fun s hs => ?_⟩
            · rw [e1, strsV_append]
              have e2 : strsV [bodyT hi lo (newT t)] = [.string T] := by rw [HTT.out]; rfl
              rw [e2]
              exact h2
            · rw [List.take_add_one, HKQ.out, Option.toList_some] at hs
              rcases List.mem_append.1 hs with hs | hs
              · exact HFA.out s hs
              · obtain rfl : s = t := by simpa using hs
                exact ⟨HKX.out, HDQ.out.symm⟩
          case measure => simp [intOf]; omega
        · have q1 : (dq == D) = false := by rw [beq_eq_false_iff_ne]; exact hdd
          have q2 : (dq != D) = true := by simp [bne, q1]
          refine start_ (n := 14) (S := fun w' => w'.cell? ⟨wr.heap.size, 0, none⟩ = some (.int .i64 xk) ∧ w'.cell? ⟨wr.heap.size, 1, none⟩ = some (.int .i64 xd) ∧ w'.cell? ⟨wr.heap.size, 2, none⟩ = some (.slice xA xn xc) ∧ w'.cell? ⟨wr.heap.size, 3, none⟩ = some (.slice xK xm xc') ∧ w'.cell? ad = some (.int .i64 zk) ∧ w'.cell? ⟨ad.block, ad.off + 1, none⟩ = some (.int .i64 zd) ∧ w'.cell? ⟨ad.block, ad.off + 2, none⟩ = some (.slice zA zn zc) ∧ w'.cell? ⟨ad.block, ad.off + 3, none⟩ = some (.slice zK zm zc')) (ds := []) #[false, false, false, false, false, false, false, false, false, false, false, false, false, false] (by kernel_rfl) rfl rfl ⟨(BX0.out.cell 0).trans rfl, (BX0.out.cell 1).trans rfl, (BX0.out.cell 2).trans rfl, (BX0.out.cell 3).trans rfl, (HCL.out _ (HB0.out.mono hB)).1, (HCL.out _ (HB0.out.mono hB)).2.1, (HCL.out _ (HB0.out.mono hB)).2.2.1, (HCL.out _ (HB0.out.mono hB)).2.2.2⟩ (fun hHeld => ?_)
          refine pure_ (i := 0) (N := some 35) (v := ?_) (a' := ?_) #[true, false, false, false, false, false, false, false, false, false, false, false, false, false] rfl rfl (by kernel_rfl) (fun _ _ _ h => h) (Or.inl ⟨by rfl, ?_⟩) ?_ ?_
          rotate_left
          · intro w'
            go_simp
            with_reducible rfl
          rotate_left
          · simp only [Act.put, List.setIfInBounds_toArray, List.set_cons_zero, List.set_cons_succ]
            rfl
          refine pure_ (i := 2) (N := some 37) (v := ?_) (a' := ?_) #[true, false, true, false, false, false, false, false, false, false, false, false, false, false] rfl rfl (by kernel_rfl) (fun _ _ _ h => h) (Or.inl ⟨by rfl, ?_⟩) ?_ ?_
          rotate_left
          · intro w'
            go_simp
            with_reducible rfl
          rotate_left
          · simp only [Act.put, List.setIfInBounds_toArray, List.set_cons_zero, List.set_cons_succ]
            rfl
          refine take_ (i := 1) (N := some 36) (v := ?_) (a' := ?_) #[true, true, true, false, false, false, false, false, false, false, false, false, false, false] rfl rfl (by kernel_rfl) (fun _ _ _ h => h) (Or.inl ⟨by rfl, ?_⟩) hHeld ?_ ?_
          rotate_left
          · rintro w' ⟨s0, s1, s2, s3, s4, s5, s6, s7⟩
            go_simp
            with_reducible rfl
          rotate_left
          · simp only [Act.put, List.setIfInBounds_toArray, List.set_cons_zero, List.set_cons_succ]
            rfl
          refine one_ (i := 3) (N := some 38) #[true, true, true, true, false, false, false, false, false, false, false, false, false, false] rfl rfl (by kernel_rfl) (by decide) (fun K hK => ?_)
          refine goes_ Tryz.func21 (by kernel_rfl) rfl #[.int .i64 kind] (by rfl) rfl rfl (by simp only [List.map_toArray, List.map_cons, List.map_nil]; rfl) ?_
          with_reducible refine (HKO.out _).mono ?_
          rintro e w5 ⟨rfl, rfl⟩
          refine ⟨_, rfl, ?_⟩
          refine hK.out _ _ ⟨(BX0.out.cell 0).trans rfl, (BX0.out.cell 1).trans rfl, (BX0.out.cell 2).trans rfl, (BX0.out.cell 3).trans rfl, (HCL.out _ (HB0.out.mono hB)).1, (HCL.out _ (HB0.out.mono hB)).2.1, (HCL.out _ (HB0.out.mono hB)).2.2.1, (HCL.out _ (HB0.out.mono hB)).2.2.2⟩ (fun hHeld => ?_)
          clear hK K
          refine norm_ (a' := ?_) ?_ ?_
          rotate_left
          · show Act.put _ (some 38) _ = _
            simp only [Act.put, List.setIfInBounds_toArray, List.set_cons_zero, List.set_cons_succ]
            rfl
          refine pure_ (i := 4) (N := some 39) (v := ?_) (a' := ?_) #[true, true, true, true, true, false, false, false, false, false, false, false, false, false] rfl rfl (by kernel_rfl) (fun _ _ _ h => h) (Or.inl ⟨by rfl, ?_⟩) ?_ ?_
          rotate_left
          · intro w'
            go_simp
            with_reducible rfl
          rotate_left
          · simp only [Act.put, List.setIfInBounds_toArray, List.set_cons_zero, List.set_cons_succ]
            rfl
          refine pure_ (i := 5) (N := some 40) (v := ?_) (a' := ?_) #[true, true, true, true, true, true, false, false, false, false, false, false, false, false] rfl rfl (by kernel_rfl) (fun _ _ _ h => h) (Or.inl ⟨by rfl, ?_⟩) ?_ ?_
          rotate_left
          · intro w'
            go_simp
            with_reducible rfl
          rotate_left
          · simp only [Act.put, List.setIfInBounds_toArray, List.set_cons_zero, List.set_cons_succ]
            rfl
          refine pure_ (i := 8) (N := some 43) (v := ?_) (a' := ?_) #[true, true, true, true, true, true, false, false, true, false, false, false, false, false] rfl rfl (by kernel_rfl) (fun _ _ _ h => h) (Or.inl ⟨by rfl, ?_⟩) ?_ ?_
          rotate_left
          · intro w'
            go_simp
            with_reducible rfl
          rotate_left
          · simp only [Act.put, List.setIfInBounds_toArray, List.set_cons_zero, List.set_cons_succ]
            rfl
          refine pure_ (i := 9) (N := some 44) (v := ?_) (a' := ?_) #[true, true, true, true, true, true, false, false, true, true, false, false, false, false] rfl rfl (by kernel_rfl) (fun _ _ _ h => h) (Or.inl ⟨by rfl, ?_⟩) ?_ ?_
          rotate_left
          · intro w'
            go_simp
            with_reducible rfl
          rotate_left
          · simp only [Act.put, List.setIfInBounds_toArray, List.set_cons_zero, List.set_cons_succ]
            rfl
          refine take_ (i := 6) (N := some 41) (v := ?_) (a' := ?_) #[true, true, true, true, true, true, true, false, true, true, false, false, false, false] rfl rfl (by kernel_rfl) (fun _ _ _ h => h) (Or.inl ⟨by rfl, ?_⟩) hHeld ?_ ?_
          rotate_left
          · rintro w' ⟨s0, s1, s2, s3, s4, s5, s6, s7⟩
            go_simp
            with_reducible rfl
          rotate_left
          · simp only [Act.put, List.setIfInBounds_toArray, List.set_cons_zero, List.set_cons_succ]
            rfl
          refine take_ (i := 10) (N := some 45) (v := ?_) (a' := ?_) #[true, true, true, true, true, true, true, false, true, true, true, false, false, false] rfl rfl (by kernel_rfl) (fun _ _ _ h => h) (Or.inl ⟨by rfl, ?_⟩) hHeld ?_ ?_
          rotate_left
          · rintro w' ⟨s0, s1, s2, s3, s4, s5, s6, s7⟩
            go_simp
            with_reducible rfl
          rotate_left
          · simp only [Act.put, List.setIfInBounds_toArray, List.set_cons_zero, List.set_cons_succ]
            rfl
          refine one_ (i := 7) (N := some 42) #[true, true, true, true, true, true, true, true, true, true, true, false, false, false] rfl rfl (by kernel_rfl) (by decide) (fun K hK => ?_)
          refine goes_ Tryz.func22 (by kernel_rfl) rfl #[.agg #[.int .i64 xk, .int .i64 xd, .slice xA xn xc, .slice xK xm xc']] (by rfl) rfl rfl (by simp only [List.map_toArray, List.map_cons, List.map_nil]; rfl) ?_
          with_reducible refine (HCQ.out _ HB0.out).mono ?_
          rintro e w6 ⟨rfl, h6⟩
          refine ⟨_, rfl, ?_⟩
          have HB6 := Lib.hid (HB0.out.trans (h6.mono HB0.out.size))
          have BX6 := Lib.hid (BX0.out.below h6 BX0.out.lt)
          have HR6 := Lib.hid (HR0.out.below h6)
          clear h6
          refine hK.out _ _ ⟨(BX6.out.cell 0).trans rfl, (BX6.out.cell 1).trans rfl, (BX6.out.cell 2).trans rfl, (BX6.out.cell 3).trans rfl, (HCL.out _ (HB6.out.mono hB)).1, (HCL.out _ (HB6.out.mono hB)).2.1, (HCL.out _ (HB6.out.mono hB)).2.2.1, (HCL.out _ (HB6.out.mono hB)).2.2.2⟩ (fun hHeld => ?_)
          clear hK K
          refine norm_ (a' := ?_) ?_ ?_
          rotate_left
          · show Act.put _ (some 42) _ = _
            simp only [Act.put, List.setIfInBounds_toArray, List.set_cons_zero, List.set_cons_succ]
            rfl
          refine one_ (i := 11) (N := some 46) #[true, true, true, true, true, true, true, true, true, true, true, true, false, false] rfl rfl (by kernel_rfl) (by decide) (fun K hK => ?_)
          refine goes_ Tryz.func22 (by kernel_rfl) rfl #[.agg #[.int .i64 zk, .int .i64 zd, .slice zA zn zc, .slice zK zm zc']] (by rfl) rfl rfl (by simp only [List.map_toArray, List.map_cons, List.map_nil]; rfl) ?_
          with_reducible refine (HCZ.out _ HB6.out).mono ?_
          rintro e w7 ⟨rfl, h7⟩
          refine ⟨_, rfl, ?_⟩
          have HB7 := Lib.hid (HB6.out.trans (h7.mono HB6.out.size))
          have BX7 := Lib.hid (BX6.out.below h7 BX6.out.lt)
          have HR7 := Lib.hid (HR6.out.below h7)
          clear h7
          refine hK.out _ _ ⟨(BX7.out.cell 0).trans rfl, (BX7.out.cell 1).trans rfl, (BX7.out.cell 2).trans rfl, (BX7.out.cell 3).trans rfl, (HCL.out _ (HB7.out.mono hB)).1, (HCL.out _ (HB7.out.mono hB)).2.1, (HCL.out _ (HB7.out.mono hB)).2.2.1, (HCL.out _ (HB7.out.mono hB)).2.2.2⟩ (fun hHeld => ?_)
          clear hK K
          refine norm_ (a' := ?_) ?_ ?_
          rotate_left
          · show Act.put _ (some 46) _ = _
            simp only [Act.put, List.setIfInBounds_toArray, List.set_cons_zero, List.set_cons_succ]
            rfl
          refine pure_ (i := 12) (N := some 47) (v := ?_) (a' := ?_) #[true, true, true, true, true, true, true, true, true, true, true, true, true, false] rfl rfl (by kernel_rfl) (fun _ _ _ h => h) (Or.inl ⟨by rfl, ?_⟩) ?_ ?_
          rotate_left
          · intro w'
            go_simp
            with_reducible rfl
          rotate_left
          · simp only [Act.put, List.setIfInBounds_toArray, List.set_cons_zero, List.set_cons_succ]
            rfl
          refine pure_ (i := 13) (N := some 48) (v := ?_) (a' := ?_) #[true, true, true, true, true, true, true, true, true, true, true, true, true, true] rfl rfl (by kernel_rfl) (fun _ _ _ h => h) (Or.inl ⟨by rfl, ?_⟩) ?_ ?_
          rotate_left
          · intro w'
            go_simp
            with_reducible rfl
          rotate_left
          · simp only [Act.put, List.setIfInBounds_toArray, List.set_cons_zero, List.set_cons_succ]
            rfl
          refine done_ (by kernel_rfl) ?_
          go_wp2
          go_ret
          exact ⟨rfl, HB7.out⟩
      · have q1 : (xk == kd) = false := by rw [beq_eq_false_iff_ne]; exact hkk
        have q2 : (xk != kd) = true := by simp [bne, q1]
        refine start_ (n := 14) (S := fun w' => w'.cell? ⟨wr.heap.size, 0, none⟩ = some (.int .i64 xk) ∧ w'.cell? ⟨wr.heap.size, 1, none⟩ = some (.int .i64 xd) ∧ w'.cell? ⟨wr.heap.size, 2, none⟩ = some (.slice xA xn xc) ∧ w'.cell? ⟨wr.heap.size, 3, none⟩ = some (.slice xK xm xc') ∧ w'.cell? ad = some (.int .i64 zk) ∧ w'.cell? ⟨ad.block, ad.off + 1, none⟩ = some (.int .i64 zd) ∧ w'.cell? ⟨ad.block, ad.off + 2, none⟩ = some (.slice zA zn zc) ∧ w'.cell? ⟨ad.block, ad.off + 3, none⟩ = some (.slice zK zm zc')) (ds := []) #[false, false, false, false, false, false, false, false, false, false, false, false, false, false] (by kernel_rfl) rfl rfl ⟨(BX0.out.cell 0).trans rfl, (BX0.out.cell 1).trans rfl, (BX0.out.cell 2).trans rfl, (BX0.out.cell 3).trans rfl, (HCL.out _ (HB0.out.mono hB)).1, (HCL.out _ (HB0.out.mono hB)).2.1, (HCL.out _ (HB0.out.mono hB)).2.2.1, (HCL.out _ (HB0.out.mono hB)).2.2.2⟩ (fun hHeld => ?_)
        refine pure_ (i := 0) (N := some 35) (v := ?_) (a' := ?_) #[true, false, false, false, false, false, false, false, false, false, false, false, false, false] rfl rfl (by kernel_rfl) (fun _ _ _ h => h) (Or.inl ⟨by rfl, ?_⟩) ?_ ?_
        rotate_left
        · intro w'
          go_simp
          with_reducible rfl
        rotate_left
        · simp only [Act.put, List.setIfInBounds_toArray, List.set_cons_zero, List.set_cons_succ]
          rfl
        refine pure_ (i := 2) (N := some 37) (v := ?_) (a' := ?_) #[true, false, true, false, false, false, false, false, false, false, false, false, false, false] rfl rfl (by kernel_rfl) (fun _ _ _ h => h) (Or.inl ⟨by rfl, ?_⟩) ?_ ?_
        rotate_left
        · intro w'
          go_simp
          with_reducible rfl
        rotate_left
        · simp only [Act.put, List.setIfInBounds_toArray, List.set_cons_zero, List.set_cons_succ]
          rfl
        refine take_ (i := 1) (N := some 36) (v := ?_) (a' := ?_) #[true, true, true, false, false, false, false, false, false, false, false, false, false, false] rfl rfl (by kernel_rfl) (fun _ _ _ h => h) (Or.inl ⟨by rfl, ?_⟩) hHeld ?_ ?_
        rotate_left
        · rintro w' ⟨s0, s1, s2, s3, s4, s5, s6, s7⟩
          go_simp
          with_reducible rfl
        rotate_left
        · simp only [Act.put, List.setIfInBounds_toArray, List.set_cons_zero, List.set_cons_succ]
          rfl
        refine one_ (i := 3) (N := some 38) #[true, true, true, true, false, false, false, false, false, false, false, false, false, false] rfl rfl (by kernel_rfl) (by decide) (fun K hK => ?_)
        refine goes_ Tryz.func21 (by kernel_rfl) rfl #[.int .i64 kind] (by rfl) rfl rfl (by simp only [List.map_toArray, List.map_cons, List.map_nil]; rfl) ?_
        with_reducible refine (HKO.out _).mono ?_
        rintro e w5 ⟨rfl, rfl⟩
        refine ⟨_, rfl, ?_⟩
        refine hK.out _ _ ⟨(BX0.out.cell 0).trans rfl, (BX0.out.cell 1).trans rfl, (BX0.out.cell 2).trans rfl, (BX0.out.cell 3).trans rfl, (HCL.out _ (HB0.out.mono hB)).1, (HCL.out _ (HB0.out.mono hB)).2.1, (HCL.out _ (HB0.out.mono hB)).2.2.1, (HCL.out _ (HB0.out.mono hB)).2.2.2⟩ (fun hHeld => ?_)
        clear hK K
        refine norm_ (a' := ?_) ?_ ?_
        rotate_left
        · show Act.put _ (some 38) _ = _
          simp only [Act.put, List.setIfInBounds_toArray, List.set_cons_zero, List.set_cons_succ]
          rfl
        refine pure_ (i := 4) (N := some 39) (v := ?_) (a' := ?_) #[true, true, true, true, true, false, false, false, false, false, false, false, false, false] rfl rfl (by kernel_rfl) (fun _ _ _ h => h) (Or.inl ⟨by rfl, ?_⟩) ?_ ?_
        rotate_left
        · intro w'
          go_simp
          with_reducible rfl
        rotate_left
        · simp only [Act.put, List.setIfInBounds_toArray, List.set_cons_zero, List.set_cons_succ]
          rfl
        refine pure_ (i := 5) (N := some 40) (v := ?_) (a' := ?_) #[true, true, true, true, true, true, false, false, false, false, false, false, false, false] rfl rfl (by kernel_rfl) (fun _ _ _ h => h) (Or.inl ⟨by rfl, ?_⟩) ?_ ?_
        rotate_left
        · intro w'
          go_simp
          with_reducible rfl
        rotate_left
        · simp only [Act.put, List.setIfInBounds_toArray, List.set_cons_zero, List.set_cons_succ]
          rfl
        refine pure_ (i := 6) (N := some 41) (v := undef) (a' := ?_) #[true, true, true, true, true, true, true, false, false, false, false, false, false, false] rfl rfl (by kernel_rfl) (fun _ _ _ h => h) (Or.inr ⟨by rfl, rfl⟩) ?_ ?_
        rotate_left
        · simp only [Act.put, List.setIfInBounds_toArray, List.set_cons_zero, List.set_cons_succ]
          rfl
        refine pure_ (i := 7) (N := some 42) (v := undef) (a' := ?_) #[true, true, true, true, true, true, true, true, false, false, false, false, false, false] rfl rfl (by kernel_rfl) (fun _ _ _ h => h) (Or.inr ⟨by rfl, rfl⟩) ?_ ?_
        rotate_left
        · simp only [Act.put, List.setIfInBounds_toArray, List.set_cons_zero, List.set_cons_succ]
          rfl
        refine pure_ (i := 8) (N := some 43) (v := undef) (a' := ?_) #[true, true, true, true, true, true, true, true, true, false, false, false, false, false] rfl rfl (by kernel_rfl) (fun _ _ _ h => h) (Or.inr ⟨by rfl, rfl⟩) ?_ ?_
        rotate_left
        · simp only [Act.put, List.setIfInBounds_toArray, List.set_cons_zero, List.set_cons_succ]
          rfl
        refine pure_ (i := 9) (N := some 44) (v := undef) (a' := ?_) #[true, true, true, true, true, true, true, true, true, true, false, false, false, false] rfl rfl (by kernel_rfl) (fun _ _ _ h => h) (Or.inr ⟨by rfl, rfl⟩) ?_ ?_
        rotate_left
        · simp only [Act.put, List.setIfInBounds_toArray, List.set_cons_zero, List.set_cons_succ]
          rfl
        refine pure_ (i := 10) (N := some 45) (v := undef) (a' := ?_) #[true, true, true, true, true, true, true, true, true, true, true, false, false, false] rfl rfl (by kernel_rfl) (fun _ _ _ h => h) (Or.inr ⟨by rfl, rfl⟩) ?_ ?_
        rotate_left
        · simp only [Act.put, List.setIfInBounds_toArray, List.set_cons_zero, List.set_cons_succ]
          rfl
        refine pure_ (i := 11) (N := some 46) (v := undef) (a' := ?_) #[true, true, true, true, true, true, true, true, true, true, true, true, false, false] rfl rfl (by kernel_rfl) (fun _ _ _ h => h) (Or.inr ⟨by rfl, rfl⟩) ?_ ?_
        rotate_left
        · simp only [Act.put, List.setIfInBounds_toArray, List.set_cons_zero, List.set_cons_succ]
          rfl
        refine pure_ (i := 12) (N := some 47) (v := undef) (a' := ?_) #[true, true, true, true, true, true, true, true, true, true, true, true, true, false] rfl rfl (by kernel_rfl) (fun _ _ _ h => h) (Or.inr ⟨by rfl, rfl⟩) ?_ ?_
        rotate_left
        · simp only [Act.put, List.setIfInBounds_toArray, List.set_cons_zero, List.set_cons_succ]
          rfl
        refine pure_ (i := 13) (N := some 48) (v := ?_) (a' := ?_) #[true, true, true, true, true, true, true, true, true, true, true, true, true, true] rfl rfl (by kernel_rfl) (fun _ _ _ h => h) (Or.inl ⟨by rfl, ?_⟩) ?_ ?_
        rotate_left
        · intro w'
          go_simp
          with_reducible rfl
        rotate_left
        · simp only [Act.put, List.setIfInBounds_toArray, List.set_cons_zero, List.set_cons_succ]
          rfl
        refine done_ (by kernel_rfl) ?_
        go_wp2
        go_ret
        exact ⟨rfl, HB0.out⟩
    · obtain rfl : n = q := by omega
      have hrw0 := HRW.out
      have hfa0 := HFA.out
      clear HRW HFA
      rw [List.take_of_length_le (by unfold partsP; rw [List.length_map, HMM.out]; exact Nat.le_refl _)] at hrw0
      rw [List.take_of_length_le (by rw [HMM.out]; exact Nat.le_refl _)] at hfa0
      have hpl : (partsP hi lo ks).length = n := by unfold partsP; rw [List.length_map, HMM.out]
      obtain ⟨Av, cv, rfl, -⟩ := own_shp hrw0.own
      rw [strsV_length, hpl] at hrw0 ⊢
      have hok := ok_newT tz (by omega)
      rw [← HD.out] at hok
      have hne : ks ≠ [] := fun e => by have := HMM.out; rw [e] at this; simp at this; omega
      have hnm := newT_multi (kind := kind) (D := D) (ks := ks) (by omega) hok.1 hok.2.1 hne (fun s hs => ((hfa0 s hs).1).trans HKD.out) (fun s hs => (hfa0 s hs).2)
      have hwm := wkt_multi hi lo (kind := kind) (D := D) (ms := ks.map newT) (by omega) (by simpa using hne)
      rw [← hnm, List.map_map, List.length_map, HMM.out] at hwm
      have hsum := partsP_sum hi lo ks HNUM.out (by have := HSZ.out; omega)
      have hszm : (Gm.mk kind 0 [] ks).sz ≤ 100000 := by
        have := HSZ.out
        unfold Gm.sz
        simp only [List.length_nil]
        omega
      have HWM : Hid (∀ W, Below w.heap.size w W → Calls Tryz.prog 20 #[.agg #[.int .i64 kind, .int .i64 0, .slice none 0 0, .slice (some ad) n c]] W fun e w' => e = .returned (.string (strOfNums (wktT hi lo (newT (.mk kind 0 [] ks))))) ∧ Below W.heap.size W w') := Lib.hid fun W hb =>
        WriteWKT_G hi lo HMG.out hszm W (hb.mono hB) (Nat.le_trans hB hb.size) (HT.out.below hb)
      have HXJ : Hid (∀ W, Rw 9 w1 W none (.slice Av n cv) (strsV (partsP hi lo ks)) → Calls Tryz.prog 25 #[.slice Av n cv] W fun e w' => e = .returned (.string (strOfNums ([40] ++ joinS 44 (partsP hi lo ks) n ++ [41]))) ∧ w' = W) := Lib.hid fun W hr => by
        have ho := hr.own
        rw [strsV_length, hpl] at ho
        exact xJoin_any W (by omega) hpl (Reads.of_own ho) (by have := HSZ.out; omega)
      have HXT : Hid (∀ W, Calls Tryz.prog 24 #[.int .i64 D] W fun e w' => e = .returned (.string (strOfNums (if D = 0 then [] else [32] ++ dimB D ++ [32]))) ∧ Below W.heap.size W w') := Lib.hid fun W => xTag_any D hok.1 hok.2.1 W
      obtain ⟨TM, hTM⟩ : ∃ T, T = strOfNums (wktT hi lo (newT (.mk kind 0 [] ks))) := ⟨_, rfl⟩
      obtain ⟨TG, hTG⟩ : ∃ T, T = strOfNums (if D = 0 then [] else [32] ++ dimB D ++ [32]) := ⟨_, rfl⟩
      obtain ⟨TJ, hTJ⟩ : ∃ T, T = strOfNums ([40] ++ joinS 44 (partsP hi lo ks) n ++ [41]) := ⟨_, rfl⟩
      have hfin : TM = strOfNums (nameB kind) ++ TG ++ TJ := by
        rw [hTM, hTG, hTJ, strOfNums_app, strOfNums_app, hwm]
        rfl
      have hgs : TG.size ≤ 10 := by
        rw [hTG, strOfNums_size]
        have := dimB_len D
        split
        · simp
        · simp only [List.length_append, List.length_cons, List.length_nil]
          omega
      have hjs : TJ.size ≤ 1000000000000 := by
        rw [hTJ, strOfNums_size]
        have h1 := joinS_sum 44 (partsP hi lo ks) n (by omega)
        have h2 := sum_take (partsP hi lo ks) n
        have := HSZ.out
        simp only [List.length_append, List.length_cons, List.length_nil]
        omega
      rw [← hTM] at HWM
      rw [← hTG] at HXT
      rw [← hTJ] at HXJ
      have HFN := Lib.hid hfin
      have HRW := Lib.hid hrw0
      clear hTM hTG hTJ hfin hnm hwm hsum hszm hrw0 hfa0 hok
      have z0 : ∀ o : Obj, (wr.alloc o).cell? ad = some (.int .i64 zk) := fun o => (HCL.out _ ((HBW.out.alloc HBW.out.size o).mono hB)).1
      have z1 : ∀ o : Obj, (wr.alloc o).cell? ⟨ad.block, ad.off + 1, none⟩ = some (.int .i64 zd) := fun o => (HCL.out _ ((HBW.out.alloc HBW.out.size o).mono hB)).2.1
      have z2 : ∀ o : Obj, (wr.alloc o).cell? ⟨ad.block, ad.off + 2, none⟩ = some (.slice zA zn zc) := fun o => (HCL.out _ ((HBW.out.alloc HBW.out.size o).mono hB)).2.2.1
      have z3 : ∀ o : Obj, (wr.alloc o).cell? ⟨ad.block, ad.off + 3, none⟩ = some (.slice zK zm zc') := fun o => (HCL.out _ ((HBW.out.alloc HBW.out.size o).mono hB)).2.2.2
      have hk456 : kind = 4 ∨ kind = 5 ∨ kind = 6 := by omega
      rcases hk456 with rfl | rfl | rfl
      · have hs1 : ¬ 9223372036854775807 < 10 + TG.size := by omega
        have hs2 : ¬ 9223372036854775807 < 10 + TG.size + TJ.size := by omega
        go_wp2_with fail
        refine (HCZ.out _ (HBW.out.alloc HBW.out.size _)).mono ?_
        rintro e w2 ⟨rfl, h2⟩
        have HB2 := Lib.hid ((HBW.out.alloc HBW.out.size _).trans (h2.mono (by rw [World.size_alloc]; exact Nat.le_succ_of_le HBW.out.size)))
        have HR2 := Lib.hid ((HRW.out.alloc _).below h2)
        clear h2
        go_wp2_with fail
        refine (HXT.out _).mono ?_
        rintro e w3 ⟨rfl, h3⟩
        have HB3 := Lib.hid (HB2.out.trans (h3.mono HB2.out.size))
        have HR3 := Lib.hid (HR2.out.below h3)
        clear h3
        go_wp2_with fail
        refine (HXJ.out _ HR3.out).mono ?_
        rintro e w4 ⟨rfl, rfl⟩
        go_wp2_with fail
        refine (HWM.out _ HB3.out).mono ?_
        rintro e w5 ⟨rfl, h5⟩
        have HB5 := Lib.hid (HB3.out.trans (h5.mono HB3.out.size))
        clear h5
        go_wp2
        go_ret
        have hq : (TM.toList == (strOfNums (nameB 4) ++ TG ++ TJ).toList) = true := by rw [HFN.out]; simp
        exact ⟨by first | rfl | exact congrArg (fun b => Ending.returned (Value.bool b)) hq, HB5.out⟩
      · have hs1 : ¬ 9223372036854775807 < 15 + TG.size := by omega
        have hs2 : ¬ 9223372036854775807 < 15 + TG.size + TJ.size := by omega
        go_wp2_with fail
        refine (HCZ.out _ (HBW.out.alloc HBW.out.size _)).mono ?_
        rintro e w2 ⟨rfl, h2⟩
        have HB2 := Lib.hid ((HBW.out.alloc HBW.out.size _).trans (h2.mono (by rw [World.size_alloc]; exact Nat.le_succ_of_le HBW.out.size)))
        have HR2 := Lib.hid ((HRW.out.alloc _).below h2)
        clear h2
        go_wp2_with fail
        refine (HXT.out _).mono ?_
        rintro e w3 ⟨rfl, h3⟩
        have HB3 := Lib.hid (HB2.out.trans (h3.mono HB2.out.size))
        have HR3 := Lib.hid (HR2.out.below h3)
        clear h3
        go_wp2_with fail
        refine (HXJ.out _ HR3.out).mono ?_
        rintro e w4 ⟨rfl, rfl⟩
        go_wp2_with fail
        refine (HWM.out _ HB3.out).mono ?_
        rintro e w5 ⟨rfl, h5⟩
        have HB5 := Lib.hid (HB3.out.trans (h5.mono HB3.out.size))
        clear h5
        go_wp2
        go_ret
        have hq : (TM.toList == (strOfNums (nameB 5) ++ TG ++ TJ).toList) = true := by rw [HFN.out]; simp
        exact ⟨by first | rfl | exact congrArg (fun b => Ending.returned (Value.bool b)) hq, HB5.out⟩
      · have hs1 : ¬ 9223372036854775807 < 12 + TG.size := by omega
        have hs2 : ¬ 9223372036854775807 < 12 + TG.size + TJ.size := by omega
        go_wp2_with fail
        refine (HCZ.out _ (HBW.out.alloc HBW.out.size _)).mono ?_
        rintro e w2 ⟨rfl, h2⟩
        have HB2 := Lib.hid ((HBW.out.alloc HBW.out.size _).trans (h2.mono (by rw [World.size_alloc]; exact Nat.le_succ_of_le HBW.out.size)))
        have HR2 := Lib.hid ((HRW.out.alloc _).below h2)
        clear h2
        go_wp2_with fail
        refine (HXT.out _).mono ?_
        rintro e w3 ⟨rfl, h3⟩
        have HB3 := Lib.hid (HB2.out.trans (h3.mono HB2.out.size))
        have HR3 := Lib.hid (HR2.out.below h3)
        clear h3
        go_wp2_with fail
        refine (HXJ.out _ HR3.out).mono ?_
        rintro e w4 ⟨rfl, rfl⟩
        go_wp2_with fail
        refine (HWM.out _ HB3.out).mono ?_
        rintro e w5 ⟨rfl, h5⟩
        have HB5 := Lib.hid (HB3.out.trans (h5.mono HB3.out.size))
        clear h5
        go_wp2
        go_ret
        have hq : (TM.toList == (strOfNums (nameB 6) ++ TG ++ TJ).toList) = true := by rw [HFN.out]; simp
        exact ⟨by first | rfl | exact congrArg (fun b => Ending.returned (Value.bool b)) hq, HB5.out⟩

end Go.Proofs.YtpbcfgehmalppaaGreatDoor

/- The row of the law FnTextMulti: for every input it returns true, and what it was handed reads as it did; and the card that ties the listed tables to the program's text. -/
namespace Go.Proofs.YtpbcfgehmalppaaGreatDoor.TextMultiC
open Go.Joins Go.ChangeShapes Go.WideShapes Go.ChangeAt Go.RowKit Go.Deep Go.Lib

set_option maxRecDepth 100000 in
theorem row_of_trod {H : Type} {enc : TypeId × Value → H} {w : World} {spare : Nat → Bool} {held : Bool} {fuel : Nat} {v : Value} {y : DataW H × List MemPlace} (h : DataW.trod enc Tryz.prog w 0 spare held fuel 23 [v] = some y) :
    ∃ (K : Option Addr) (m c : Nat) (ks : List Gm) (us : Nat → Nat → Value), v = .slice K m c ∧ ks.length = m ∧ (∀ i, i < m → ∃ ad, K = some ad ∧ ad.block < w.heap.size ∧ ∀ j, j < 4 → w.cell? (ad.add (i * 4 + j)) = some (us i j)) ∧
      ∀ (i : Nat) t, ks[i]? = some t → GmAt w w.heap.size (.agg #[us i 0, us i 1, us i 2, us i 3]) t := by
  have hC : Tryz.prog.cellsOf 25 = 4 := by kernel_rfl
  rcases DataW.trod_slice Tryz.underlying23 h with ⟨e, _⟩ | ⟨a, len, cap, elems, rest, n1, hf, e, _, _, hl, _, hel0, hel, _⟩
  · injection e with e
    exact ⟨none, 0, 0, [], fun _ _ => .bool false, e, rfl, fun i hi => absurd hi (by omega), fun i t ht => by simp at ht⟩
  · injection e with e
    obtain ⟨l, hll, hlp⟩ := list_of (P := fun i (p : Gm × Value × Value × Value × Value) => (w.cell? (a.add (i * 4 + 0)) = some p.2.1 ∧ w.cell? (a.add (i * 4 + 1)) = some p.2.2.1 ∧ w.cell? (a.add (i * 4 + 2)) = some p.2.2.2.1 ∧ w.cell? (a.add (i * 4 + 3)) = some p.2.2.2.2) ∧ GmAt w w.heap.size (.agg #[p.2.1, p.2.2.1, p.2.2.2.1, p.2.2.2.2]) p.1) len fun i hi => by
      have he := hel i hi
      rw [hC, List.getElem?_eq_getElem (by omega)] at he
      obtain ⟨cs', k1, k2⟩ := Option.bind_eq_some_iff.1 he
      obtain ⟨k', d', A', K', n', m', c1', c2', t, rfl, _, hG⟩ := gm_of_trod n1 cs' _ k2
      obtain ⟨_, _, hcc⟩ := World.cells?_some k1
      have q := fun j (hj : j < 4) => (add_of_add a (i * 4) j) ▸ hcc j hj
      exact ⟨(t, _, _, _, _), ⟨q 0 (by omega), q 1 (by omega), q 2 (by omega), q 3 (by omega)⟩, hG⟩
    have hgt : ∀ i, i < len → ∃ p, l[i]? = some p := fun i hi => ⟨_, List.getElem?_eq_getElem (by omega)⟩
    refine ⟨some a, len, cap, l.map (·.1), fun i j => match l[i]? with
      | some p => (match j with | 0 => p.2.1 | 1 => p.2.2.1 | 2 => p.2.2.2.1 | _ => p.2.2.2.2)
      | none => .bool false, e, by simp [hll], fun i hi => ?_, fun i t ht => ?_⟩
    · obtain ⟨p, hp⟩ := hgt i hi
      obtain ⟨⟨q0, q1, q2, q3⟩, _⟩ := hlp i p hp
      refine ⟨a, rfl, ?_, fun j hj => ?_⟩
      · have := World.block_lt_of_cell? w _ q0
        rwa [block_of_add] at this
      · simp only [hp]
        match j, hj with
        | 0, _ => exact q0
        | 1, _ => exact q1
        | 2, _ => exact q2
        | 3, _ => exact q3
    · rw [List.getElem?_map] at ht
      obtain ⟨p, hp, rfl⟩ := Option.map_eq_some_iff.1 ht
      simp only [hp]
      exact (hlp i p hp).2

theorem size_of_reads {W : World} (h : VarReads Tryz.prog W "math/bits.deBruijn64tab" Rows.laid_math_bits_deBruijn64tab) : 7 ≤ W.heap.size := by
  obtain ⟨g, t, cs, fuel, p, hg, ht, hvar, hd⟩ := h
  obtain rfl := Option.some.inj ((show Tryz.prog.globalNamed "math/bits.deBruijn64tab" = some 6 by kernel_rfl).symm.trans hg)
  simp only [World.var?, hg, Option.bind_some] at hvar
  split at hvar
  · rename_i hb
    have := (Array.getElem?_eq_some_iff.1 hb).1
    exact this
  · cases hvar

theorem own : ownKnob Tryz.prog.godebug = none := by kernel_rfl
theorem laidOut : laidOutB Tryz.prog = true := by kernel_rfl
abbrev laid : List (String × DataW Unit) := Rows.fnTextMultiRow.laid

set_option maxRecDepth 100000 in
theorem lifted (os : Os) (started : os.Started) (H : Type) (enc : TypeId × Value → H) :
    ReturnsInHanded {} Tryz.checked os 8 .any (fun w args => (Rows.fnTextMultiSpec.pre enc Tryz.prog Tryz.f8 [] false w args ∧ laidMetH Tryz.prog laid w) ∧ sizedMet enc Tryz.prog Tryz.f8 (OpenSpec.ofChange Rows.fnTextMultiSpec) false w args)
      (Rows.fnTextMultiSpec.post enc Tryz.prog Tryz.f8 false true false false) := by
  refine returnsInHanded_of_change_and (C := Tryz.checked) (X := fun w _ => laidMetH Tryz.prog laid w) (fun _ _ _ hh h => h.of_heap hh) own started (by kernel_rfl) Tryz.func8
    (ChangeSpec.witness_shaped (enc := enc) (C := Tryz.checked) (os := os) (X := fun w _ => laidMetH Tryz.prog laid w) false (World.laidAll Tryz.prog os laid) #[.int .i64 0, .slice none 0 0] 8 (World.laidAll_os _ _ _)
      (World.shaped_of_ZipB (by kernel_rfl) (by kernel_rfl)) (by kernel_rfl) (by kernel_rfl) (by kernel_rfl)
      (by rw [MakeChecks.laidMetH_plain _ _ _ (by kernel_rfl)]; exact laidMet_laidAll _ (by kernel_rfl) (by kernel_rfl))) ?_
  intro W base args ds gs before hval0 hW _ _ hL _
  have hval : ∀ (j : Nat) t v, Tryz.f8.params[j]? = some t → args[j]? = some v → Value.okWide Tryz.prog W .any base t v := hval0
  have hW' := hW
  obtain ⟨p, q, hA0, hV, rfl, _, _⟩ := hW
  have hA : DataW.TrodAll enc Tryz.prog W 0 (fun _ => true) true Tryz.f8.params.toList args.toList ds p := hA0
  rw [Tryz.params8] at hA hval
  obtain ⟨v0, v1, d0, d1, p0, p1, rfl, rfl, rfl, h0, h1⟩ := trodAll_two hA
  obtain ⟨rfl, rfl⟩ := trodVars_none hV
  have k0 := h0
  have k1 := h1
  have lt0 : ∀ x ∈ p0, x.block < W.heap.size := by obtain ⟨n, hn⟩ := k0; exact DataW.trod_lt n _ _ _ hn
  have lt1 : ∀ x ∈ p1, x.block < W.heap.size := by obtain ⟨n, hn⟩ := k1; exact DataW.trod_lt n _ _ _ hn
  obtain ⟨kind, rfl⟩ := okWide_int Tryz.underlying3 (hval 0 3 v0 rfl rfl)
  obtain ⟨fuel1, hf1⟩ := h1
  have hsl : v1.cells.toList = [v1] := by
    obtain ⟨ad, ln, cp, rfl⟩ := okWide_slice Tryz.underlying23 (hval 1 23 v1 rfl rfl)
    rfl
  rw [hsl] at hf1
  obtain ⟨K, m, c, ks, us, rfl, em, hkk, hss⟩ := row_of_trod hf1
  rw [MakeChecks.laidMetH_plain _ _ _ (by kernel_rfl)] at hL
  have hpow : Pow10 W hiT loT := pow_of_reads (Lib.laidMet.reads hL (d := Rows.laid_internal_strconv_pow10Tab) (.tail _ (.tail _ (.tail _ (.tail _ (.tail _ (.head _)))))))
  have hten : Tab10 W := ten_of_reads (Lib.laidMet.reads hL (.tail _ (.tail _ (.tail _ (.head _)))))
  have hsz : 7 ≤ W.heap.size := size_of_reads (Lib.laidMet.reads hL (.tail _ (.head _)))
  have hft : FtTabs W hiT loT := ⟨hpow, tab_range, hten, hsz⟩
  refine (FnTextMulti_law hiT loT hft em hkk hss (Nat.le_refl _)).mono fun e W' ⟨he, bel⟩ => ?_
  subst he
  exact ⟨_, rfl, _, _, _, [], _, [], hW', trodAll_mk1 (shut_bool Tryz.underlying4 _), trodAll_mk2 (Below.trod laidOut (by kernel_rfl) (of_decide_eq_true (by kernel_rfl)) k0 bel lt0) (Below.trod laidOut (by kernel_rfl) (of_decide_eq_true (by kernel_rfl)) k1 bel lt1), rfl, bel.frame _, fun h => by cases h⟩

theorem over : Rows.FnTextMultiSaid :=
  OpenClaim.holds_of_wide 8 Tryz.f8 rfl rfl rfl rfl rfl rfl rfl ⟨rfl, rfl, rfl, rfl, rfl⟩ rfl rfl rfl rfl rfl (by kernel_rfl) Tryz.func8 (by kernel_rfl)
    (of_decide_eq_true (by kernel_rfl)) (by unfold Func.isWrapper; first | (rw [if_pos (by decide +kernel)]; kernel_rfl) | (rw [if_neg (by decide +kernel)]; exact ⟨rfl, rfl⟩))
    (fun os started H enc _ => lifted os started H enc)

theorem card : Rows.FnTextMultiCardSaid :=
  Claim7.holds_tied_plain_at .later [] [.data, .data, .data, .data, .pinned, .pinned] true (true, "7d10880d0100bb61184fffae3825abb45b511aa7be47748017cd4e8d360c3ad9") true over (fun _ h => by cases h) (by kernel_rfl) (fun _ h => by cases h) fnTextMulti_row_tie rfl ⟨rfl, rfl⟩ (by kernel_rfl) rfl
    (fun f fn hf hfn => by
      obtain rfl : f = 8 := Option.some.inj ((show Tryz.prog.funcNamed "pub-alidade/laws.FnTextMulti" = some 8 by kernel_rfl).symm.trans hf) |>.symm
      obtain rfl : fn = Tryz.f8 := (Option.some.inj (Tryz.func8.symm.trans hfn)).symm
      exact ⟨by kernel_rfl, fun j t ht => by
        rw [Tryz.params8] at ht
        have hm : t ∈ [3, 23] := by simpa using Array.mem_of_getElem? ht
        have hall : ([3, 23].all fun u => !Tryz.prog.wantsStandIn u) = true := by kernel_rfl
        exact (show Tryz.prog.wantsStandIn t = false by simpa using List.all_eq_true.1 hall t hm)⟩)
    (by kernel_rfl)
#print axioms card
end Go.Proofs.YtpbcfgehmalppaaGreatDoor.TextMultiC
namespace Go.Proofs.YtpbcfgehmalppaaGreatDoor
theorem fnTextMulti_card : Rows.FnTextMultiCardSaid := TextMultiC.card
end Go.Proofs.YtpbcfgehmalppaaGreatDoor
