/- The reference's texts, as plain lists of bytes: places, bodies, whole texts. -/
import Derived.Test.YtpbcfgehmalppaaGreatDoorKPS
import Derived.Test.YtpbcfgehmalppaaGreatDoorQPtx2
import Derived.Test.YtpbcfgehmalppaaGreatDoorQPtx1
namespace Go.Proofs.YtpbcfgehmalppaaGreatDoorW.QPt
open Go.RowKit Go.Proofs.YtpbcfgehmalppaaGreatDoorW.PrintWords Go.Proofs.YtpbcfgehmalppaaGreatDoor

theorem strN_app (a b : List Int) : strOfNums a ++ strOfNums b = strOfNums (a ++ b) := by
  have h := ByteArray.mk_append_mk (a.map fun n => UInt8.ofNat n.toNat) (b.map fun n => UInt8.ofNat n.toNat)
  rw [← List.map_append] at h
  exact h
theorem strN_size (a : List Int) : (strOfNums a).size = a.length := by
  show (a.map fun n => UInt8.ofNat n.toNat).toArray.size = _
  simp
theorem numT_len {b : Nat} (h : b < 18446744073709551616) : (numT b).length ≤ 1900 := ftoaV_len hiT loT b h

/-- Texts with a sign between them: the first k. -/
def joinK (c : Int) (ps : List (List Int)) : Nat → List Int
  | 0 => []
  | k + 1 => (if 0 < k then joinK c ps k ++ [c] else joinK c ps k) ++ ps.getD k []
theorem joinK_succ (c : Int) (ps : List (List Int)) (k : Nat) : joinK c ps (k + 1) = (if 0 < k then joinK c ps k ++ [c] else joinK c ps k) ++ ps.getD k [] := rfl
theorem joinK_len {c : Int} {ps : List (List Int)} {L : Nat} (h : ∀ p ∈ ps, p.length ≤ L) : ∀ k, (joinK c ps k).length ≤ (L + 1) * k
  | 0 => by simp [joinK]
  | k + 1 => by
    have ih := joinK_len (c := c) h k
    have hp : (ps.getD k []).length ≤ L := by
      rw [List.getD_eq_getElem?_getD]
      rcases Nat.lt_or_ge k ps.length with hk | hk
      · rw [List.getElem?_eq_getElem hk]; exact h _ (List.getElem_mem _)
      · rw [List.getElem?_eq_none hk]; simp
    have e : (L + 1) * (k + 1) = (L + 1) * k + (L + 1) := Nat.mul_succ _ _
    unfold joinK
    split <;> simp only [List.length_append, List.length_cons, List.length_nil] <;> omega
def lens (ps : List (List Int)) : Nat := (ps.map (·.length + 1)).sum
theorem lens_append (a b : List (List Int)) : lens (a ++ b) = lens a + lens b := by simp [lens]
theorem joinK_lens (c : Int) (ps : List (List Int)) : ∀ k, k ≤ ps.length → (joinK c ps k).length ≤ lens (ps.take k)
  | 0, _ => by simp [joinK]
  | k + 1, hk => by
    have ih := joinK_lens c ps k (by omega)
    have hlt : k < ps.length := by omega
    rw [List.take_succ_eq_append_getElem hlt, lens_append]
    have e : ps.getD k [] = ps[k] := by rw [List.getD_eq_getElem?_getD, List.getElem?_eq_getElem hlt]; rfl
    have e2 : lens [ps[k]] = ps[k].length + 1 := by simp [lens]
    unfold joinK
    rw [e, e2]
    split <;> simp only [List.length_append, List.length_cons, List.length_nil] <;> omega
theorem lens_take (ps : List (List Int)) (k : Nat) : lens (ps.take k) ≤ lens ps := by
  conv => rhs; rw [← List.take_append_drop k ps, lens_append]
  omega

/-- A place's text. -/
def placeT (q : Int) (p : S88) : List Int := joinK 32 ((plN q p).map numT) (plN q p).length
/-- A place's numbers are 64 bits each. -/
def okP (p : S88) : Prop := p.f0 < 18446744073709551616 ∧ p.f1 < 18446744073709551616 ∧ p.f2 < 18446744073709551616 ∧ p.f3 < 18446744073709551616
theorem okP_nums {q : Int} {p : S88} (h : okP p) : ∀ b ∈ plN q p, b < 18446744073709551616 := by
  intro b hb
  obtain ⟨h0, h1, h2, h3⟩ := h
  unfold plN at hb
  simp only [List.mem_append, List.mem_cons, List.mem_nil_iff, or_false] at hb
  rcases hb with (rfl | rfl) | hb | hb
  · exact h0
  · exact h1
  · split at hb
    · simp at hb; subst hb; exact h2
    · simp at hb
  · split at hb
    · simp at hb; subst hb; exact h3
    · simp at hb
theorem placeT_len {q : Int} {p : S88} (h : okP p) : (placeT q p).length ≤ 7604 := by
  unfold placeT
  have h1 := joinK_len (c := 32) (ps := (plN q p).map numT) (L := 1900) (by
    intro x hx
    obtain ⟨b, hb, rfl⟩ := List.mem_map.1 hx
    exact numT_len (okP_nums h b hb)) (plN q p).length
  have h2 := plN_len q p
  have : (1900 + 1) * (plN q p).length ≤ (1900 + 1) * 4 := Nat.mul_le_mul_left _ h2
  omega

theorem wp_loop (ns : List Nat) (hb : ∀ b ∈ ns, b < 18446744073709551616) (hl : ns.length ≤ 1000000) : ∀ (d i : Nat), i + d = ns.length → Ev (fun k => spec_writePlace.l0 k (strOfNums (joinK 32 (ns.map numT) i)) ns (ns.length : Int) (i : Int)) (strOfNums (joinK 32 (ns.map numT) ns.length))
  | 0, i, hd => by
    obtain rfl : i = ns.length := by omega
    refine Ev.step (f := fun _ => some (strOfNums (joinK 32 (ns.map numT) ns.length))) (fun k => ?_) (Ev.now _)
    simp only [spec_writePlace.l0]
    rw [if_neg (by omega)]
  | d + 1, i, hd => by
    have ih := wp_loop ns hb hl d (i + 1) (by omega)
    have hlt : i < ns.length := by omega
    have hlen := joinK_len (c := 32) (ps := ns.map numT) (L := 1900) (by
      intro x hx
      obtain ⟨b, hb', rfl⟩ := List.mem_map.1 hx
      exact numT_len (hb b hb')) i
    have hm : (1900 + 1) * i ≤ (1900 + 1) * 1000000 := Nat.mul_le_mul_left _ (by omega)
    have e1 : wrap64 ((i : Int) + 1) = ((i + 1 : Nat) : Int) := by rw [w64 (by omega) (by omega)]; omega
    have hr : rdOf (0 : Nat) ns (i : Int) = ns[i] := by
      unfold rdOf
      rw [Int.toNat_natCast, List.getD_eq_getElem?_getD, List.getElem?_eq_getElem hlt]
      rfl
    have hbi := hb _ (List.getElem_mem hlt)
    have hw : spec_WriteNumber.f ns[i] = some (strOfNums (numT ns[i])) := by unfold spec_WriteNumber.f; rw [if_pos hbi]
    have hnl := numT_len hbi
    have e2 : (ns.map numT).getD i [] = numT ns[i] := by rw [List.getD_eq_getElem?_getD, List.getElem?_map, List.getElem?_eq_getElem hlt]; rfl
    have e3 : (⟨#[32]⟩ : ByteArray) = strOfNums [32] := rfl
    refine Ev.step (fun k => ?_) ih
    simp only [spec_writePlace.l0]
    rw [if_pos (by omega), if_pos (by omega), if_pos (by omega), hr, hw, e1]
    simp only [Option.bind_some, e3, strN_app, strN_size, List.length_append, List.length_cons, List.length_nil]
    by_cases h0 : 0 < i
    · rw [if_pos (by omega), if_pos (by omega), if_pos (by omega)]
      rw [joinK_succ, if_pos h0, e2]
    · obtain rfl : i = 0 := by omega
      rw [if_neg (by omega), if_pos (by omega)]
      rw [joinK_succ, if_neg h0, e2]
theorem writePlace_tells (q : Int) (p : S88) (h : okP p) : Ev (fun k => spec_writePlace.f k p.f0 p.f1 p.f2 p.f3 q) (strOfNums (placeT q p)) := by
  have h1 := nums_tells q [p] (by simp)
  have e : plsN q [p] = plN q p := by simp [plsN]
  rw [e] at h1
  have h2 := wp_loop (plN q p) (okP_nums h) (by have := plN_len q p; omega) (plN q p).length 0 (by omega)
  exact Ev.bind (f := fun k t => spec_writePlace.l0 k (⟨#[]⟩ : ByteArray) t (t.length : Int) 0) h1 h2

def emptyB : List Int := [69, 77, 80, 84, 89]
def nameB (k : Int) : List Int :=
  if k = 1 then [80, 79, 73, 78, 84] else if k = 2 then [76, 73, 78, 69, 83, 84, 82, 73, 78, 71] else if k = 3 then [80, 79, 76, 89, 71, 79, 78] else if k = 4 then [77, 85, 76, 84, 73, 80, 79, 73, 78, 84]
  else if k = 5 then [77, 85, 76, 84, 73, 76, 73, 78, 69, 83, 84, 82, 73, 78, 71] else if k = 6 then [77, 85, 76, 84, 73, 80, 79, 76, 89, 71, 79, 78] else [71, 69, 79, 77, 69, 84, 82, 89, 67, 79, 76, 76, 69, 67, 84, 73, 79, 78]
def dimB (q : Int) : List Int := if q = 1 then [90] else if q = 2 then [77] else if q = 3 then [90, 77] else []
theorem nameB_len (k : Int) : (nameB k).length ≤ 18 := by unfold nameB; (repeat' split) <;> simp
theorem dimB_len (k : Int) : (dimB k).length ≤ 2 := by unfold dimB; (repeat' split) <;> simp
theorem kindName_tells (k : Int) : spec_kindName.f k = some (strOfNums (nameB k)) := by
  unfold spec_kindName.f nameB
  (repeat' split) <;> rfl
theorem dimName_tells (k : Int) : spec_dimName.f k = some (strOfNums (dimB k)) := by
  unfold spec_dimName.f dimB
  (repeat' split) <;> rfl

/-- Is it the text EMPTY? -/
def isE (b : List Int) : Bool := decide ((strOfNums b).toList = ([69, 77, 80, 84, 89] : List UInt8))
/-- A text, out of a kind, a type and a body. -/
def headT (k q : Int) (b : List Int) : List Int := (if q = 0 then (if isE b = true then nameB k ++ [32] else nameB k) else nameB k ++ ([32] ++ dimB q) ++ [32]) ++ b
theorem headT_len (k q : Int) (b : List Int) : (headT k q b).length ≤ 22 + b.length := by
  have h1 := nameB_len k
  have h2 := dimB_len q
  unfold headT
  (repeat' split) <;> simp only [List.length_append, List.length_cons, List.length_nil] <;> omega
/-- A body out of the texts of what is in it. -/
def listT (ps : List (List Int)) : List Int := if ps = [] then emptyB else [40] ++ joinK 44 ps ps.length ++ [41]
def placesT (q : Int) (ns : List Nat) : List (List Int) := (pls q ns (ns.length / wd q)).map (placeT q)
mutual
def bodyT : S25 → List Int
  | ⟨k, q, ns, ks⟩ => listT (placesT q ns ++ kidsT k ks)
def kidsT (k : Int) : List S25 → List (List Int)
  | [] => []
  | t :: ts => (if k = 0 then headT t.f0 t.f1 (bodyT t) else bodyT t) :: kidsT k ts
end
theorem kidsT_map (k : Int) : ∀ ts, kidsT k ts = ts.map fun t => if k = 0 then headT t.f0 t.f1 (bodyT t) else bodyT t
  | [] => rfl
  | t :: ts => by simp [kidsT, kidsT_map k ts]
def wktT (t : S25) : List Int := headT t.f0 t.f1 (bodyT t)


mutual
/-- Types of coordinates from 0 to 3, numbers of 64 bits. -/
def fineT : S25 → Prop
  | ⟨_, q, ns, ks⟩ => (0 ≤ q ∧ q ≤ 3) ∧ (∀ b ∈ ns, b < 18446744073709551616) ∧ fineTs ks
def fineTs : List S25 → Prop
  | [] => True
  | t :: ts => fineT t ∧ fineTs ts
end
theorem fineTs_iff : ∀ ts, fineTs ts ↔ ∀ t ∈ ts, fineT t
  | [] => by simp [fineTs]
  | t :: ts => by simp [fineTs, fineTs_iff ts]
theorem fineT_def (t : S25) : fineT t ↔ (0 ≤ t.f1 ∧ t.f1 ≤ 3) ∧ (∀ b ∈ t.f2, b < 18446744073709551616) ∧ ∀ u ∈ t.f3, fineT u := by
  cases t
  simp [fineT, fineTs_iff]
theorem getD_lt {ns : List Nat} (h : ∀ b ∈ ns, b < 18446744073709551616) (i : Nat) : ns.getD i 0 < 18446744073709551616 := by
  rw [List.getD_eq_getElem?_getD]
  rcases Nat.lt_or_ge i ns.length with hi | hi
  · rw [List.getElem?_eq_getElem hi]; exact h _ (List.getElem_mem hi)
  · rw [List.getElem?_eq_none hi]; simp
theorem okP_pl {q : Int} {ns : List Nat} (h : ∀ b ∈ ns, b < 18446744073709551616) (i : Nat) : okP (pl q ns i) := by
  refine ⟨getD_lt h _, getD_lt h _, ?_, ?_⟩
  · show (if q % 2 = 1 then ns.getD (i * wd q + 2) 0 else 0) < _
    split
    · exact getD_lt h _
    · simp
  · show (if q / 2 % 2 = 1 then ns.getD (i * wd q + (wd q - 1)) 0 else 0) < _
    split
    · exact getD_lt h _
    · simp

theorem placesT_lens {q : Int} {ns : List Nat} (q0 : 0 ≤ q) (q1 : q ≤ 3) (h : ∀ b ∈ ns, b < 18446744073709551616) : lens (placesT q ns) ≤ 3803 * ns.length := by
  have hw := wd_le q q0 q1
  have hd : ns.length / wd q * 2 ≤ ns.length := Nat.le_trans (Nat.mul_le_mul_left _ hw.1) (Nat.div_mul_le_self _ _)
  have : ∀ n, lens ((pls q ns n).map (placeT q)) ≤ 7605 * n := by
    intro n
    induction n with
    | zero => simp [pls, lens]
    | succ n ih =>
      rw [pls_succ, List.map_append, lens_append]
      have := placeT_len (q := q) (okP_pl (q := q) h n)
      have e : lens ([pl q ns n].map (placeT q)) = (placeT q (pl q ns n)).length + 1 := by simp [lens]
      omega
  have := this (ns.length / wd q)
  unfold placesT
  omega

theorem listT_len (ps : List (List Int)) : (listT ps).length ≤ 7 + lens ps := by
  unfold listT
  split
  · simp only [emptyB, List.length_cons, List.length_nil]; omega
  · have := joinK_lens 44 ps ps.length (Nat.le_refl _)
    rw [List.take_of_length_le (Nat.le_refl _)] at this
    simp only [List.length_append, List.length_cons, List.length_nil]
    omega

theorem bodyT_len : ∀ (N : Nat) (t : S25), t.sz ≤ N → fineT t → (bodyT t).length + 42 ≤ 8000 * t.sz
  | 0, t, ht, _ => by have := sz_pos t; omega
  | N + 1, ⟨k, q, ns, ks⟩, ht, hf => by
    have hs := sz_def ⟨k, q, ns, ks⟩
    simp only at hs
    rw [hs] at ht ⊢
    obtain ⟨⟨q0, q1⟩, hb, hk⟩ := (fineT_def _).1 hf
    simp only at q0 q1 hb hk
    have h1 := placesT_lens q0 q1 hb
    have h2 : ∀ l : List S25, (∀ t ∈ l, fineT t) → szs l ≤ N → lens (kidsT k l) ≤ 8000 * szs l := by
      intro l
      induction l with
      | nil => intro _ _; simp [kidsT, lens]
      | cons t l ih =>
        intro hfl hsl
        have hts : szs (t :: l) = t.sz + szs l := rfl
        rw [hts] at hsl ⊢
        have i1 := ih (fun u hu => hfl u (List.mem_cons_of_mem _ hu)) (by omega)
        have i2 := bodyT_len N t (by omega) (hfl t List.mem_cons_self)
        have i3 := headT_len t.f0 t.f1 (bodyT t)
        have e : lens (kidsT k (t :: l)) = ((if k = 0 then headT t.f0 t.f1 (bodyT t) else bodyT t).length + 1) + lens (kidsT k l) := by simp [kidsT, lens]
        rw [e]
        split <;> omega
    have h3 := h2 ks hk (by omega)
    have h4 := listT_len (placesT q ns ++ kidsT k ks)
    rw [lens_append] at h4
    have e : bodyT ⟨k, q, ns, ks⟩ = listT (placesT q ns ++ kidsT k ks) := by simp [bodyT]
    rw [e]
    omega

theorem kidsT_lens (kk : Int) : ∀ l : List S25, (∀ t ∈ l, fineT t) → lens (kidsT kk l) ≤ 8000 * szs l
  | [], _ => by simp [kidsT, lens]
  | t :: l, hf => by
    have hts : szs (t :: l) = t.sz + szs l := rfl
    have i1 := kidsT_lens kk l (fun u hu => hf u (List.mem_cons_of_mem _ hu))
    have i2 := bodyT_len t.sz t (Nat.le_refl _) (hf t List.mem_cons_self)
    have i3 := headT_len t.f0 t.f1 (bodyT t)
    have e : lens (kidsT kk (t :: l)) = ((if kk = 0 then headT t.f0 t.f1 (bodyT t) else bodyT t).length + 1) + lens (kidsT kk l) := by simp [kidsT, lens]
    rw [e, hts]
    split <;> omega

theorem rd_str {ps : List (List Int)} {i : Nat} (h : i < ps.length) : rdOf ByteArray.empty (ps.map strOfNums) (i : Int) = strOfNums (ps.getD i []) := by
  unfold rdOf
  rw [Int.toNat_natCast, List.getD_eq_getElem?_getD, List.getElem?_map, List.getD_eq_getElem?_getD, List.getElem?_eq_getElem h]
  rfl

theorem wb_join (ps : List (List Int)) (hl : lens ps ≤ 1000000000000000) (hn : ps.length ≤ 1000000000000) : ∀ (d i : Nat), i + d = ps.length → Ev (fun k => spec_writeBody.l2 k (strOfNums ([40] ++ joinK 44 ps i)) (ps.map strOfNums) (ps.length : Int) (i : Int)) (strOfNums ([40] ++ joinK 44 ps ps.length ++ [41]))
  | 0, i, hd => by
    obtain rfl : i = ps.length := by omega
    have hj := joinK_lens 44 ps ps.length (Nat.le_refl _)
    have ht := lens_take ps ps.length
    refine Ev.step (f := fun _ => some (strOfNums ([40] ++ joinK 44 ps ps.length ++ [41]))) (fun k => ?_) (Ev.now _)
    simp only [spec_writeBody.l2]
    rw [if_neg (by omega), strN_size, if_pos (by simp only [List.length_append, List.length_cons, List.length_nil]; omega), show (⟨#[41]⟩ : ByteArray) = strOfNums [41] from rfl, strN_app]
  | d + 1, i, hd => by
    have ih := wb_join ps hl hn d (i + 1) (by omega)
    have hlt : i < ps.length := by omega
    have hj := joinK_lens 44 ps (i + 1) (by omega)
    have ht := lens_take ps (i + 1)
    have e1 : wrap64 ((i : Int) + 1) = ((i + 1 : Nat) : Int) := by rw [w64 (by omega) (by omega)]; omega
    have es : joinK 44 ps (i + 1) = (if 0 < i then joinK 44 ps i ++ [44] else joinK 44 ps i) ++ ps.getD i [] := rfl
    rw [es] at hj ih
    have hlm : ((ps.map strOfNums).length : Int) = ps.length := by simp
    refine Ev.step (fun k => ?_) ih
    simp only [spec_writeBody.l2]
    rw [if_pos (by omega), if_pos (by omega), if_pos (by rw [hlm]; omega), rd_str hlt, e1]
    simp only [show (⟨#[44]⟩ : ByteArray) = strOfNums [44] from rfl, strN_app, strN_size, List.length_append, List.length_cons, List.length_nil]
    by_cases h0 : 0 < i
    · rw [if_pos h0] at hj ⊢
      simp only [List.length_append, List.length_cons, List.length_nil] at hj
      rw [if_pos (by omega), if_pos (by omega), if_pos (by omega)]
      simp only [List.append_assoc]
    · obtain rfl : i = 0 := by omega
      rw [if_neg h0] at hj ⊢
      simp only [List.length_append] at hj
      rw [if_neg (by omega), if_pos (by omega)]
      simp only [List.append_assoc]

end Go.Proofs.YtpbcfgehmalppaaGreatDoorW.QPt
