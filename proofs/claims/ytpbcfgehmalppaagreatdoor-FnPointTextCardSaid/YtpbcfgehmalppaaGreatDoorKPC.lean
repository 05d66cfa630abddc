/- The text of a point as the package writes it is the reference's text of the point's own numbers. -/
import Derived.Test.YtpbcfgehmalppaaGreatDoorKPB
import Derived.Test.YtpbcfgehmalppaaGreatDoorQPtx1
import Derived.Laws.Strings
namespace Go.Proofs.YtpbcfgehmalppaaGreatDoorW.QPt
open Go.RowKit Go.Proofs.YtpbcfgehmalppaaGreatDoorW.PrintWords Go.Proofs.YtpbcfgehmalppaaGreatDoor

theorem toList_strN (b : List Int) : (strOfNums b).toList = b.map fun n => UInt8.ofNat n.toNat := by
  rw [ByteArray.toList_eq]
  show ((b.map fun n => UInt8.ofNat n.toNat).toArray).toList = _
  simp
theorem isE_emptyB : isE emptyB = true := by
  unfold isE
  rw [toList_strN]
  rfl
theorem isE_40 (l : List Int) : isE ([40] ++ l) = false := by
  unfold isE
  rw [toList_strN]
  simp
theorem listT_ne {ps : List (List Int)} (h : ps ≠ []) : listT ps = [40] ++ (joinK 44 ps ps.length ++ [41]) := by
  unfold listT
  rw [if_neg h, List.append_assoc]

theorem tagB_eq (q : Int) (h0 : 0 ≤ q) (h1 : q ≤ 3) : tagB q = if q = 0 then [] else [32] ++ dimB q ++ [32] := by
  have h : q = 0 ∨ q = 1 ∨ q = 2 ∨ q = 3 := by omega
  rcases h with rfl | rfl | rfl | rfl <;> rfl
/-- A text with a body in parentheses. -/
theorem headT_full (k q : Int) (h0 : 0 ≤ q) (h1 : q ≤ 3) (l : List Int) : headT k q ([40] ++ l) = nameB k ++ (tagB q ++ ([40] ++ l)) := by
  rw [tagB_eq q h0 h1]
  unfold headT
  rw [isE_40]
  by_cases h : q = 0
  · simp [h]
  · simp [h]
theorem headT_empty (k q : Int) (h0 : 0 ≤ q) (h1 : q ≤ 3) : headT k q emptyB = nameB k ++ (tagB q ++ ((if q = 0 then [32] else []) ++ emptyB)) := by
  rw [tagB_eq q h0 h1]
  unfold headT
  rw [isE_emptyB]
  by_cases h : q = 0
  · simp [h]
  · simp [h]

theorem pl_take (q : Int) (ns : List Nat) (m i : Nat) (h : (i + 1) * wd q ≤ m) (q0 : 0 ≤ q) (q1 : q ≤ 3) : pl q (ns.take m) i = pl q ns i := by
  have e : ∀ j, j < m → (ns.take m).getD j 0 = ns.getD j 0 := fun j hj => by
    rw [List.getD_eq_getElem?_getD, List.getD_eq_getElem?_getD, List.getElem?_take, if_pos hj]
  have hw : 2 ≤ wd q ∧ (q % 2 = 1 → 3 ≤ wd q) := by unfold wd; omega
  rw [Nat.succ_mul] at h
  have a2 : (if q % 2 = 1 then (ns.take m).getD (i * wd q + 2) 0 else 0) = (if q % 2 = 1 then ns.getD (i * wd q + 2) 0 else 0) := by
    split
    · exact e _ (by have := hw.2 (by assumption); omega)
    · rfl
  have a3 : (if q / 2 % 2 = 1 then (ns.take m).getD (i * wd q + (wd q - 1)) 0 else 0) = (if q / 2 % 2 = 1 then ns.getD (i * wd q + (wd q - 1)) 0 else 0) := by
    split
    · exact e _ (by omega)
    · rfl
  unfold pl ptN
  rw [e (i * wd q) (by omega), e (i * wd q + 1) (by omega), a2, a3]

theorem dimOf_tells (d : Int) : impl_dimOf.f d = some (d % 4) := by
  unfold impl_dimOf.f
  rw [and3]
  congr 1
  omega
theorem len_tells {q : Int} (q0 : 0 ≤ q) (q1 : q ≤ 3) {ns : List Nat} (hl : ns.length ≤ 1000000000) : geom_Sequence_Length.f q ns = some ((ns.length / wd q : Nat) : Int) := by
  have hw := wd_le q q0 q1
  have hd := Nat.div_le_self ns.length (wd q)
  unfold geom_Sequence_Length.f
  rw [dim_tells q q0 q1, Option.bind_some, if_neg (by omega), ← Int.natCast_ediv]
  generalize ns.length / wd q = L at *
  rw [w64 (by omega) (by omega)]
theorem seqN_len (d : Int) (ns : List Nat) : (seqN d ns).length = ns.length - ns.length % wd (d % 4) := by
  unfold seqN
  rw [List.length_take]
  omega
theorem seqN_places (d : Int) (ns : List Nat) : (seqN d ns).length / wd (d % 4) = ns.length / wd (d % 4) := by
  have hw := wd_le (d % 4) (by omega) (by omega)
  rw [seqN_len]
  have h := Nat.div_add_mod ns.length (wd (d % 4))
  have e : ns.length - ns.length % wd (d % 4) = wd (d % 4) * (ns.length / wd (d % 4)) := by omega
  rw [e, Nat.mul_div_cancel_left _ (by omega)]

/-- How many numbers of a point count. -/
def cutT (d : Int) (n : Nat) : Nat := if wd (d % 4) ≤ n then wd (d % 4) else 0
theorem point_empty (d : Int) (ns : List Nat) (ks : List S25) (k : Nat) (hl : ns.length ≤ 1000000000) (hn : ¬ wd (d % 4) ≤ ns.length) : impl_point.f (k + 1) 1 d ns ks = some (0, 0, 0, 0, d % 4, false) := by
  have hp := len_tells (q := d % 4) (ns := seqN d ns) (by omega) (by omega) (by rw [seqN_len]; omega)
  rw [seqN_places, Nat.div_eq_of_lt (by omega)] at hp
  unfold impl_point.f impl_sequence.f
  rw [if_pos hl, Option.bind_some, if_pos rfl]
  show (geom_Sequence_Length.f (d % 4) (seqN d ns)).bind _ = _
  rw [hp, Option.bind_some]
  simp only [impl_point.j0]
  rw [if_pos (by simp), dimOf_tells, Option.bind_some]
  rfl
theorem point_full (d : Int) (ns : List Nat) (ks : List S25) (k : Nat) (hl : ns.length ≤ 1000000000) (hn : wd (d % 4) ≤ ns.length) :
    impl_point.f (k + 1) 1 d ns ks = some ((pl (d % 4) ns 0).f0, (pl (d % 4) ns 0).f1, (pl (d % 4) ns 0).f2, (pl (d % 4) ns 0).f3, d % 4, true) := by
  have q0 : 0 ≤ d % 4 := by omega
  have q1 : d % 4 ≤ 3 := by omega
  have hw := wd_le (d % 4) q0 q1
  have hp := len_tells (q := d % 4) (ns := seqN d ns) q0 q1 (by rw [seqN_len]; omega)
  have hd : 0 < ns.length / wd (d % 4) := Nat.div_pos hn (by omega)
  have hm : wd (d % 4) * 1 ≤ wd (d % 4) * (ns.length / wd (d % 4)) := Nat.mul_le_mul_left _ hd
  have h := Nat.div_add_mod ns.length (wd (d % 4))
  have hsl := seqN_len d ns
  have e := pl_take (d % 4) ns (ns.length - ns.length % wd (d % 4)) 0 (by omega) q0 q1
  have eg : geom_Sequence_Get.f (d % 4) (seqN d ns) 0 = some ((pl (d % 4) ns 0).f0, (pl (d % 4) ns 0).f1, (pl (d % 4) ns 0).f2, (pl (d % 4) ns 0).f3, d % 4) := by
    unfold geom_Sequence_Get.f
    rw [if_pos ⟨q0, q1, Int.le_refl 0, by omega, by show (0 + 1) * _ ≤ _; omega⟩, ← e]
    rfl
  rw [seqN_places] at hp
  unfold impl_point.f impl_sequence.f
  rw [if_pos hl, Option.bind_some, if_pos rfl]
  show (geom_Sequence_Length.f (d % 4) (seqN d ns)).bind _ = _
  rw [hp, Option.bind_some]
  simp only [impl_point.j0]
  rw [if_neg (by simp; omega), eg, Option.bind_some]
  rfl

theorem point_tells (d : Int) (ns : List Nat) (ks : List S25) (hl : ns.length ≤ 1000000000) (hb : ∀ b ∈ ns, b < 18446744073709551616) :
    Ev (fun k => impl_PointWKT.f k 1 d ns ks) (strOfNums (wktT ⟨1, d % 4, ns.take (cutT d ns.length), []⟩)) := by
  have q0 : 0 ≤ d % 4 := by omega
  have q1 : d % 4 ≤ 3 := by omega
  have hw := wd_le (d % 4) q0 q1
  have hnm : bytesOf (⟨#[80, 79, 73, 78, 84]⟩ : ByteArray) = nameB 1 := rfl
  have hh := header_tells (d % 4) q0 q1 (⟨#[80, 79, 73, 78, 84]⟩ : ByteArray) (by show 5 ≤ 1000; omega) [] (by simp)
  have htl := tagB_len (d % 4)
  have hnl := nameB_len 1
  rw [hnm, List.nil_append] at hh
  by_cases hn : wd (d % 4) ≤ ns.length
  · have e : wktT ⟨1, d % 4, ns.take (cutT d ns.length), []⟩ = nameB 1 ++ (tagB (d % 4) ++ ([40] ++ (placeT (d % 4) (pl (d % 4) ns 0) ++ [41]))) := by
      have e1 : cutT d ns.length = wd (d % 4) := by unfold cutT; rw [if_pos hn]
      have e2 : (ns.take (wd (d % 4))).length / wd (d % 4) = 1 := by rw [List.length_take, Nat.min_eq_left hn, Nat.div_self (by omega)]
      have e3 : placesT (d % 4) (ns.take (wd (d % 4))) = [placeT (d % 4) (pl (d % 4) ns 0)] := by
        unfold placesT
        rw [e2]
        show [placeT (d % 4) (pl (d % 4) (ns.take (wd (d % 4))) 0)] = _
        rw [pl_take _ _ _ 0 (by omega) q0 q1]
      have e4 : bodyT ⟨1, d % 4, ns.take (wd (d % 4)), []⟩ = listT (placesT (d % 4) (ns.take (wd (d % 4))) ++ kidsT 1 []) := by simp [bodyT]
      unfold wktT
      rw [e1, e4, e3]
      simp only [kidsT, List.append_nil]
      rw [listT_ne (by simp), headT_full _ _ q0 q1]
      have e5 : joinK 44 [placeT (d % 4) (pl (d % 4) ns 0)] ([placeT (d % 4) (pl (d % 4) ns 0)] : List (List Int)).length = placeT (d % 4) (pl (d % 4) ns 0) := rfl
      rw [e5]
    rw [e]
    refine ⟨2, fun k hk => ?_⟩
    obtain ⟨k, rfl⟩ : ∃ j, k = j + 2 := ⟨k - 2, by omega⟩
    have hc := coords_tells q0 q1 (okP_pl (q := d % 4) hb 0) (nameB 1 ++ tagB (d % 4)) (by simp only [List.length_append]; omega) true k
    show impl_PointWKT.f (k + 2) 1 d ns ks = _
    unfold impl_PointWKT.f geom_Point_AsText.f geom_Point_AppendWKT.f geom_Point_appendWKTBody.f
    rw [point_full d ns ks (k + 1) hl hn, Option.bind_some]
    show ((geom_appendWKTHeader.f [] _ (d % 4)).bind _ |>.bind _).bind _ = _
    rw [hh, Option.bind_some, if_pos rfl]
    show ((((geom_appendWKTCoords.f (k + 2) (nameB 1 ++ tagB (d % 4)) (pl (d % 4) ns 0).f0 (pl (d % 4) ns 0).f1 (pl (d % 4) ns 0).f2 (pl (d % 4) ns 0).f3 (d % 4) true).bind _).bind _).bind _).bind _ = _
    rw [hc]
    simp only [Option.bind_some, if_true, List.append_assoc]
  · have e : wktT ⟨1, d % 4, ns.take (cutT d ns.length), []⟩ = nameB 1 ++ (tagB (d % 4) ++ ((if d % 4 = 0 then [32] else []) ++ emptyB)) := by
      have e1 : cutT d ns.length = 0 := by unfold cutT; rw [if_neg hn]
      have e3 : placesT (d % 4) [] = [] := by
        unfold placesT
        rw [List.length_nil, Nat.zero_div]
        rfl
      have e4 : bodyT ⟨1, d % 4, [], []⟩ = listT (placesT (d % 4) [] ++ kidsT 1 []) := by simp [bodyT]
      unfold wktT
      rw [e1, List.take_zero, e4, e3]
      show headT 1 (d % 4) emptyB = _
      rw [headT_empty _ _ q0 q1]
    rw [e]
    refine ⟨1, fun k hk => ?_⟩
    obtain ⟨k, rfl⟩ : ∃ j, k = j + 1 := ⟨k - 1, by omega⟩
    have he := empty_tells (nameB 1 ++ tagB (d % 4)) (by simp only [List.length_append]; omega)
    have eg : gapT (nameB 1 ++ tagB (d % 4)) = if d % 4 = 0 then [32] else [] := by
      have h : d % 4 = 0 ∨ d % 4 = 1 ∨ d % 4 = 2 ∨ d % 4 = 3 := by omega
      rcases h with h | h | h | h <;> rw [h] <;> rfl
    rw [eg] at he
    show impl_PointWKT.f (k + 1) 1 d ns ks = _
    unfold impl_PointWKT.f geom_Point_AsText.f geom_Point_AppendWKT.f geom_Point_appendWKTBody.f
    rw [point_empty d ns ks k hl hn, Option.bind_some]
    show ((geom_appendWKTHeader.f [] _ (d % 4)).bind _ |>.bind _).bind _ = _
    rw [hh, Option.bind_some, if_neg (by simp)]
    rw [he]
    simp only [Option.bind_some, List.append_assoc]

end Go.Proofs.YtpbcfgehmalppaaGreatDoorW.QPt
