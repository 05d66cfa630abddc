/- The text of a good geometry, as data: how long it is, what force leaves of its measure. -/
import Derived.Test.YtpbcfgehmalppaaGreatDoorPgF
import Derived.Test.YtpbcfgehmalppaaGreatDoorPgE
namespace Go.Proofs.YtpbcfgehmalppaaGreatDoor
open Go.RowKit

/-- Parts and places. -/
def Gm.np : Gm → Nat
  | .mk _ d ns ks => 1 + ns.length / wd d + (ks.attach.map fun x => Gm.np x.1).sum
decreasing_by all_goals (have := List.sizeOf_lt_of_mem x.2; simp; omega)
theorem np_mk (k d : Int) (ns : List Nat) (ks : List Gm) : (Gm.mk k d ns ks).np = 1 + ns.length / wd d + (ks.map Gm.np).sum := by
  rw [Gm.np]
  congr 2
  simp

/-- All numbers are bits. -/
inductive NumT : Gm → Prop
  | mk {k d : Int} {ns : List Nat} {ks : List Gm} (hb : ∀ b ∈ ns, b < 18446744073709551616) (hk : ∀ t ∈ ks, NumT t) : NumT (.mk k d ns ks)
theorem GmOn.nums {w : World} {ok : Nat → Prop} {cs : List Value} {t : Gm} (h : GmOn w ok cs t) : NumT t := by
  induction h with
  | @mk k d ns ks n m A K c c' css en hn hb em ec el hk hs ih =>
    refine .mk hb (fun t ht => ?_)
    obtain ⟨q, hq⟩ := List.mem_iff_getElem?.1 ht
    have hl : q < css.length := by
      have := (List.getElem?_eq_some_iff.1 hq).1
      omega
    exact ih q _ t (List.getElem?_eq_getElem hl) hq

def emptyB : List Int := [69, 77, 80, 84, 89]
/-- A text behind its name and tag. -/
def headT (t : Gm) (body : List Int) : List Int := (if t.d = 0 then nameB t.k else nameB t.k ++ ([32] ++ dimB t.d)) ++ (if t.d ≠ 0 ∨ ((strOfNums body).toList == [69, 77, 80, 84, 89]) = true then [32] else []) ++ body
def listB (ps : List (List Int)) : List Int := if ps = [] then emptyB else [40] ++ joinS 44 ps ps.length ++ [41]
/-- What stands behind the name and the tag. -/
def bodyT (hi lo : Nat → Int) : Gm → List Int
  | .mk k d ns ks => listB ((ptsN d ns (ns.length / wd d)).map (placeT hi lo d) ++ ks.attach.map fun x => if k = 0 then headT x.1 (bodyT hi lo x.1) else bodyT hi lo x.1)
decreasing_by all_goals (have := List.sizeOf_lt_of_mem x.2; simp; omega)
/-- The text of a part within its parent. -/
def partT (hi lo : Nat → Int) (k : Int) (t : Gm) : List Int := if k = 0 then headT t (bodyT hi lo t) else bodyT hi lo t
def partsB (hi lo : Nat → Int) (k d : Int) (ns : List Nat) (ks : List Gm) : List (List Int) := (ptsN d ns (ns.length / wd d)).map (placeT hi lo d) ++ ks.map (partT hi lo k)
theorem bodyT_mk (hi lo : Nat → Int) (k d : Int) (ns : List Nat) (ks : List Gm) : bodyT hi lo (.mk k d ns ks) = listB (partsB hi lo k d ns ks) := by
  rw [bodyT]
  unfold partsB
  congr 2
  have e : ∀ f : Gm → List Int, (ks.attach.map fun x => f x.1) = ks.map f := fun f => by simp
  exact e (partT hi lo k)
/-- The whole text. -/
def wktT (hi lo : Nat → Int) (t : Gm) : List Int := headT t (bodyT hi lo t)

theorem joinS_sum (s : Int) : ∀ (ps : List (List Int)) (k : Nat), k ≤ ps.length → (joinS s ps k).length ≤ ((ps.take k).map fun p => p.length + 1).sum
  | _, 0, _ => by simp [joinS]
  | ps, k + 1, h => by
    have ih := joinS_sum s ps k (by omega)
    rw [take_snoc' ps k (by omega), List.map_append, List.sum_append]
    have e : ps.getD k [] = ps[k] := by rw [List.getD_eq_getElem?_getD, List.getElem?_eq_getElem (by omega)]; rfl
    unfold joinS
    rw [e]
    split <;> simp only [List.length_append, List.length_cons, List.length_nil, List.map_cons, List.map_nil, List.sum_cons, List.sum_nil] <;> omega

theorem headT_len (t : Gm) (b : List Int) : (headT t b).length ≤ b.length + 30 := by
  have h1 := nameB_len t.k
  have h2 := dimB_len t.d
  unfold headT
  split <;> split <;> simp only [List.length_append, List.length_cons, List.length_nil] <;> omega
theorem listB_len (ps : List (List Int)) : (listB ps).length ≤ (ps.map fun p => p.length + 1).sum + 7 := by
  unfold listB
  split
  · simp [emptyB]
  · have h := joinS_sum 44 ps ps.length (Nat.le_refl _)
    rw [List.take_length] at h
    simp only [List.length_append, List.length_cons, List.length_nil]
    omega
theorem sum_le {α : Type} (f g : α → Nat) : ∀ l : List α, (∀ x ∈ l, f x ≤ g x) → (l.map f).sum ≤ (l.map g).sum
  | [], _ => by simp
  | a :: l, h => by
    have := sum_le f g l (fun x hx => h x (List.mem_cons_of_mem _ hx))
    have := h a (List.mem_cons_self ..)
    simp only [List.map_cons, List.sum_cons]
    omega
theorem sum_le_mem {α : Type} (f : α → Nat) : ∀ (l : List α) (x : α), x ∈ l → f x ≤ (l.map f).sum
  | [], _, h => by cases h
  | a :: l, x, h => by
    simp only [List.map_cons, List.sum_cons]
    rcases List.mem_cons.1 h with rfl | h
    · omega
    · have := sum_le_mem f l x h; omega
theorem sum_mul {α : Type} (f : α → Nat) (c : Nat) : ∀ l : List α, (l.map fun x => c * f x).sum = c * (l.map f).sum
  | [] => by simp
  | a :: l => by simp only [List.map_cons, List.sum_cons, sum_mul f c l, Nat.mul_add]

theorem sum_const {α : Type} (c : Nat) : ∀ l : List α, (l.map fun _ => c).sum = c * l.length
  | [] => by simp
  | a :: l => by simp only [List.map_cons, List.sum_cons, sum_const c l, List.length_cons, Nat.mul_succ]; omega
theorem sum_filter {α : Type} (f : α → Nat) (q : α → Bool) : ∀ l : List α, ((l.filter q).map f).sum ≤ (l.map f).sum
  | [] => by simp
  | a :: l => by
    have := sum_filter f q l
    rw [List.filter_cons]
    split <;> simp only [List.map_cons, List.sum_cons] <;> omega

theorem plNums_lt (d : Int) (ns : List Nat) (i : Nat) (h : ∀ b ∈ ns, b < 18446744073709551616) : ∀ b ∈ plNums d (ptN d ns i), b < 18446744073709551616 := by
  intro b hb
  refine plsNums_lt d d ns (i + 1) h b ?_
  unfold plsNums ptsN
  rw [List.range_succ, List.map_append, List.flatMap_append]
  exact List.mem_append_right _ (by simpa using hb)
theorem places_len (hi lo : Nat → Int) (d : Int) (ns : List Nat) (h : ∀ b ∈ ns, b < 18446744073709551616) (r : Nat) : ∀ p ∈ (ptsN d ns r).map (placeT hi lo d), p.length ≤ 7604 := by
  intro p hp
  obtain ⟨q, hq, rfl⟩ := List.mem_map.1 hp
  unfold ptsN at hq
  obtain ⟨i, _, rfl⟩ := List.mem_map.1 hq
  exact placeT_len hi lo d _ (plNums_lt d ns i h)

theorem sum_take (l : List (List Int)) (k : Nat) : ((l.take k).map fun p => p.length + 1).sum ≤ (l.map fun p => p.length + 1).sum := by
  have h := congrArg (fun l : List (List Int) => (l.map fun p => p.length + 1).sum) (List.take_append_drop k l)
  simp only [List.map_append, List.sum_append] at h
  omega
theorem parts_sum (hi lo : Nat → Int) (k d : Int) (ns : List Nat) (ks : List Gm) (hb : ∀ b ∈ ns, b < 18446744073709551616) (ih : ∀ t ∈ ks, (bodyT hi lo t).length + 1000 ≤ 9000 * t.np) :
    ((partsB hi lo k d ns ks).map fun p => p.length + 1).sum ≤ 9000 * (ns.length / wd d) + 9000 * (ks.map Gm.np).sum := by
  unfold partsB
  rw [List.map_append, List.sum_append]
  have a1 : (((ptsN d ns (ns.length / wd d)).map (placeT hi lo d)).map fun p => p.length + 1).sum ≤ 9000 * (ns.length / wd d) := by
    have := sum_le (fun p : List Int => p.length + 1) (fun _ => 9000 * 1) ((ptsN d ns (ns.length / wd d)).map (placeT hi lo d)) (fun p hp => by have := places_len hi lo d ns hb _ p hp; show _ ≤ _; omega)
    refine Nat.le_trans this ?_
    rw [sum_const, List.length_map, ptsN_length]
    omega
  have a2 : ((ks.map (partT hi lo k)).map fun p => p.length + 1).sum ≤ 9000 * (ks.map Gm.np).sum := by
    rw [List.map_map, ← sum_mul]
    refine sum_le _ _ ks (fun t ht => ?_)
    have h3 := ih t ht
    have h4 := headT_len t (bodyT hi lo t)
    show (partT hi lo k t).length + 1 ≤ _
    unfold partT
    split <;> omega
  omega
theorem bodyT_len (hi lo : Nat → Int) {t : Gm} (h : NumT t) : (bodyT hi lo t).length + 1000 ≤ 9000 * t.np := by
  induction h with
  | @mk k d ns ks hb hk ih =>
    rw [bodyT_mk, np_mk]
    have h1 := listB_len (partsB hi lo k d ns ks)
    have h2 := parts_sum hi lo k d ns ks hb ih
    generalize ns.length / wd d = r at *
    omega
theorem np_mem {ks : List Gm} {t : Gm} (h : t ∈ ks) : t.np ≤ (ks.map Gm.np).sum := by
  induction ks with
  | nil => cases h
  | cons a ks ih =>
    simp only [List.map_cons, List.sum_cons]
    rcases List.mem_cons.1 h with rfl | h
    · omega
    · have := ih h; omega

theorem np_forceT (dim : Int) (d0 : 0 ≤ dim) (d1 : dim ≤ 3) {t : Gm} (h : OkT t) : (forceT dim t).np = t.np := by
  induction h with
  | @mk k d ns ks h0 h1 hn hm hk ih =>
    rw [forceT_mk, np_mk, np_mk, plsNums_wd dim d0 d1, ptsN_length, Nat.mul_div_cancel _ (by have := wd_pos dim; omega), List.map_map]
    congr 2
    exact List.map_congr_left fun t ht => ih t ht

theorem np_newT : ∀ t : Gm, t.sz ≤ 100000 → (newT t).np ≤ t.sz
  | .mk k d ns ks => fun hs => by
    have hok := ok_newT (.mk k d ns ks) hs
    unfold Gm.sz at hs
    have hl := szs_len ks
    have ih : ∀ t ∈ ks, (newT t).np ≤ t.sz := fun t ht => np_newT t (by have := sz_mem ht; omega)
    have q0 : 0 ≤ d % 4 := by omega
    have q1 : d % 4 ≤ 3 := by omega
    have hks : (ks.map Gm.sz).sum = Gm.szs ks := by
      clear ih hl hs hok
      induction ks with
      | nil => rfl
      | cons a ks ih => simp only [List.map_cons, List.sum_cons, Gm.szs, ih]
    have hmi : ∀ m ∈ (ks.map newT).filter (keepT (kindN k)), 0 ≤ m.d ∧ m.d ≤ 3 ∧ OkT m := fun m hm => by
      obtain ⟨u, hu, rfl⟩ := List.mem_map.1 (List.mem_filter.1 hm).1
      exact ok_newT u (by have := sz_mem hu; omega)
    rw [newT_mk]
    unfold Gm.sz
    split
    · rw [np_mk]
      have : (ns.take (cutL (kindN k) (d % 4) ns.length)).length / wd (d % 4) ≤ ns.length := Nat.le_trans (Nat.div_le_self _ _) (by rw [List.length_take]; omega)
      have e : (([] : List Gm).map Gm.np).sum = 0 := rfl
      rw [e]
      omega
    · have hml : ((ks.map newT).filter (keepT (kindN k))).length ≤ 100000 := Nat.le_trans (List.length_filter_le _ _) (by rw [List.length_map]; omega)
      have hms : (((ks.map newT).filter (keepT (kindN k))).map Gm.np).sum ≤ Gm.szs ks := by
        refine Nat.le_trans (sum_filter _ _ _) ?_
        rw [List.map_map, ← hks]
        exact sum_le _ _ ks (fun t ht => ih t ht)
      generalize (ks.map newT).filter (keepT (kindN k)) = ms at *
      have e0 : ([] : List Nat).length / wd (d % 4) = 0 := by simp
      unfold partsT
      split
      · rw [np_mk, e0]
        have e : (([] : List Gm).map Gm.np).sum = 0 := rfl
        rw [e]
        omega
      · obtain ⟨f0, f1⟩ := fold_range ms 3 (by omega) (by omega) (fun m hm => ⟨(hmi m hm).1, (hmi m hm).2.1⟩)
        rw [np_forceT _ f0 f1 (.mk q0 q1 (by simp) hml (fun m hm => (hmi m hm).2.2)), np_mk, e0]
        omega
  termination_by t => SizeOf.sizeOf t
  decreasing_by (have := List.sizeOf_lt_of_mem ht; simp; omega)

end Go.Proofs.YtpbcfgehmalppaaGreatDoor
