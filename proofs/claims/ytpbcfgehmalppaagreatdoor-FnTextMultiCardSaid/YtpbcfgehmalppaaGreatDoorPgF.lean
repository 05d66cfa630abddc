/- The reference's text of a place and the names of kinds and types. -/
import Derived.Test.YtpbcfgehmalppaaGreatDoorPgB
import Derived.Laws.Concat
namespace Go.Proofs.YtpbcfgehmalppaaGreatDoor
open Go.RowKit

/-- Texts with a sign between them. -/
def joinS (s : Int) (ps : List (List Int)) : Nat → List Int
  | 0 => []
  | k + 1 => (if 0 < k then joinS s ps k ++ [s] else joinS s ps k) ++ ps.getD k []
theorem joinS_len {s : Int} {ps : List (List Int)} {L : Nat} (h : ∀ p ∈ ps, p.length ≤ L) : ∀ k, (joinS s ps k).length ≤ (L + 1) * k
  | 0 => by simp [joinS]
  | k + 1 => by
    have ih := joinS_len (s := s) h k
    have hp : (ps.getD k []).length ≤ L := by
      rw [List.getD_eq_getElem?_getD]
      rcases Nat.lt_or_ge k ps.length with hk | hk
      · rw [List.getElem?_eq_getElem hk]; exact h _ (List.getElem_mem _)
      · rw [List.getElem?_eq_none hk]; simp
    have e : (L + 1) * (k + 1) = (L + 1) * k + (L + 1) := Nat.mul_succ _ _
    unfold joinS
    split <;> simp only [List.length_append, List.length_cons, List.length_nil] <;> omega
/-- A place's numbers with blanks between them. -/
def placeT (hi lo : Nat → Int) (d : Int) (p : Pl) : List Int := joinS 32 (txts hi lo (plNums d p)) (plNums d p).length
theorem placeT_len (hi lo : Nat → Int) (d : Int) (p : Pl) (h : ∀ b ∈ plNums d p, b < 18446744073709551616) : (placeT hi lo d p).length ≤ 7604 := by
  have h1 := joinS_len (s := 32) (txts_len hi lo h) (plNums d p).length
  have h2 := plNums_len d p
  unfold placeT
  have h3 : (1900 + 1) * (plNums d p).length ≤ (1900 + 1) * 4 := Nat.mul_le_mul_left _ h2
  omega

set_option maxHeartbeats 4000000 in
set_option maxRecDepth 100000 in
theorem writePlace_any (x y z m : Nat) (d : Int) (hi lo : Nat → Int) (w : World) (ht : FtTabs w hi lo) (hb : ∀ b ∈ plNums d (x, y, z, m), b < 18446744073709551616) :
    Calls Tryz.prog 59 #[.agg #[.float .f64 x, .float .f64 y, .float .f64 z, .float .f64 m], .int .i64 d] w fun e w' => e = .returned (.string (strOfNums (placeT hi lo d (x, y, z, m)))) ∧ Below w.heap.size w w' := by
  have hP : placeT hi lo d (x, y, z, m) = joinS 32 (txts hi lo (plNums d (x, y, z, m))) (plNums d (x, y, z, m)).length := rfl
  have hnl := plNums_len d (x, y, z, m)
  have hNums := Nums_any d [(x, y, z, m)] (w.heap.size + 1) 1 _ (fun _ => rfl) ((w.alloc (.cells #[.float .f64 x, .float .f64 y, .float .f64 z, .float .f64 m] 88)).alloc (.cells #[.float .f64 x, .float .f64 y, .float .f64 z, .float .f64 m] 88)) (fun i p hp => by
    rcases i with _ | i
    · injection hp with hp
      subst hp
      have h := Blk.new (w.alloc (.cells #[.float .f64 x, .float .f64 y, .float .f64 z, .float .f64 m] 88)) 88 #[.float .f64 x, .float .f64 y, .float .f64 z, .float .f64 m]
      rw [World.size_alloc] at h
      exact ⟨h.cell 0, h.cell 1, h.cell 2, h.cell 3⟩
    · simp at hp) (by show 1 ≤ 1000000000; omega)
  have epl : plsNums d [(x, y, z, m)] = plNums d (x, y, z, m) := by simp [plsNums]
  rw [epl] at hNums
  generalize placeT hi lo d (x, y, z, m) = PT at *
  generalize plNums d (x, y, z, m) = ns at *
  have hfl : (flV ns).length = ns.length := flV_length ns
  have htl : (txts hi lo ns).length = ns.length := List.length_map _
  have htx := txts_len hi lo hb
  have hjl := joinS_len (s := 32) htx
  generalize hn : ns.length = n at *
  have hb0 : Below w.heap.size w ((w.alloc (.cells #[.float .f64 x, .float .f64 y, .float .f64 z, .float .f64 m] 88)).alloc (.cells #[.float .f64 x, .float .f64 y, .float .f64 z, .float .f64 m] 88)) := ((Below.refl _ _).alloc (Nat.le_refl _) _).alloc (by simp) _
  have HN := Lib.hid hn
  have HFL := Lib.hid hfl
  have HTL := Lib.hid htl
  have HJL := Lib.hid hjl
  have HNS := Lib.hid hb
  have HP := Lib.hid hP
  have HNU := Lib.hid hNums
  have HB0 := Lib.hid hb0
  have HT := Lib.hid ht
  clear hn hfl htl htx hjl hb hP hNums hb0 ht epl
  go_enter Tryz.func59, Tryz.ntmps59
  go_wp2_with fail
  refine HNU.out.mono ?_
  rintro e w1 ⟨v1, rfl, k1⟩
  have hv1 : ∃ A c, v1 = .slice A n c := by
    rcases k1.own.2 with ⟨rfl, h⟩ | ⟨g, cap, cur, rfl, _⟩
    · rw [HFL.out] at h; subst h; exact ⟨none, 0, rfl⟩
    · exact ⟨_, cap, by rw [HFL.out]⟩
  obtain ⟨A, c, rfl⟩ := hv1
  have K1 := Lib.hid k1
  have HB1 := Lib.hid (HB0.out.trans (k1.below0.mono (by simp; omega)))
  clear k1
  go_wp2_with fail
  go_loopw [5, 13] (fun u i wr => ∃ (k : Nat) (S : ByteArray), k ≤ n ∧ i = .int .i64 k ∧ u = .string S ∧ Hid (S = strOfNums (joinS 32 (txts hi lo ns) k)) ∧ Below w1.heap.size w1 wr) (fun _ i _ => n - (intOf i).toNat)
  case atStart => exact ⟨0, ByteArray.mk #[], Nat.zero_le _, rfl, rfl, rfl, Below.refl _ _⟩
  case round =>
    obtain ⟨k, S, hk, rfl, rfl, HS, hbr⟩ := hrel
    have hSl : S.size ≤ 7604 := by
      rw [HS.out, strOfNums_size]
      have := HJL.out k
      omega
    by_cases hlt : k < n
    · obtain ⟨g, cp, hvv, hcc⟩ := K1.out.cell (k := k) (by rw [HFL.out]; omega)
      rw [HFL.out] at hvv
      injection hvv with hA _ hc
      subst hA
      have hkl : k < ns.length := by rw [HN.out]; exact hlt
      have hcell : wr.cell? ⟨g, k, none⟩ = some (.float .f64 ns[k]) := by
        have h2 : (flV ns)[k]'(by rw [HFL.out]; omega) = .float .f64 ns[k] := by simp [flV]
        rw [h2] at hcc
        exact (hbr.cell (World.block_lt_of_cell? w1 _ hcc)).trans hcc
      have hkb : ns[k] < 18446744073709551616 := HNS.out _ (List.getElem_mem _)
      have hts : joinS 32 (txts hi lo ns) (k + 1) = (if 0 < k then joinS 32 (txts hi lo ns) k ++ [32] else joinS 32 (txts hi lo ns) k) ++ ftoaV hi lo ns[k] := by
        have e : (txts hi lo ns).getD k [] = ftoaV hi lo ns[k] := by simp [txts, List.getD_eq_getElem?_getD, List.getElem?_eq_getElem hkl]
        rw [← e]
        rfl
      have hTl : (strOfNums (ftoaV hi lo ns[k])).size ≤ 1900 := by rw [strOfNums_size]; exact ftoaV_len hi lo _ hkb
      have HTS := Lib.hid hts
      have HTB := Lib.hid (((HT.out.below HB1.out).below hbr))
      clear hcc hc hts
      generalize ns[k] = b at *
      generalize joinS 32 (txts hi lo ns) k = J at *
      have HKB := Lib.hid hkb
      have HBR := Lib.hid hbr
      clear hkb hbr
      by_cases hk0 : 0 < k
      · go_wp2_with fail
        refine (WriteNumber_any b hi lo _ HTB.out HKB.out).mono ?_
        rintro e w2 ⟨rfl, h2⟩
        have HBW := Lib.hid (HBR.out.trans (h2.mono HBR.out.size))
        clear h2
        generalize hTT : strOfNums (ftoaV hi lo b) = T at *
        have HTT := Lib.hid hTT
        clear hTT
        go_wp2
        go_roundw
        case rel =>
          refine ⟨k + 1, _, by omega, by go_num, rfl, ?_, HBW.out⟩
          show _ = _
          rw [HTS.out, if_pos hk0, HS.out, ← HTT.out, show (ByteArray.mk #[32]) = strOfNums [32] from rfl, strOfNums_app, strOfNums_app]
        case measure => simp [intOf]; omega
      · obtain rfl : k = 0 := by omega
        go_wp2_with fail
        refine (WriteNumber_any b hi lo _ HTB.out HKB.out).mono ?_
        rintro e w2 ⟨rfl, h2⟩
        have HBW := Lib.hid (HBR.out.trans (h2.mono HBR.out.size))
        clear h2
        generalize hTT : strOfNums (ftoaV hi lo b) = T at *
        have HTT := Lib.hid hTT
        clear hTT
        go_wp2
        go_roundw
        case rel =>
          refine ⟨1, _, by omega, by go_num, rfl, ?_, HBW.out⟩
          show _ = _
          rw [HTS.out, if_neg (by omega), HS.out, ← HTT.out, strOfNums_app]
        case measure => simp [intOf]; omega
    · obtain rfl : n = k := by omega
      have HBR := Lib.hid hbr
      clear hbr
      go_wp2
      go_ret
      exact ⟨by rw [HP.out, HS.out]; rfl, HB1.out.trans (HBR.out.mono HB1.out.size)⟩

/-- A kind's name. -/
def nameB (k : Int) : List Int :=
  if k = 1 then [80, 79, 73, 78, 84] else if k = 2 then [76, 73, 78, 69, 83, 84, 82, 73, 78, 71] else if k = 3 then [80, 79, 76, 89, 71, 79, 78] else if k = 4 then [77, 85, 76, 84, 73, 80, 79, 73, 78, 84]
  else if k = 5 then [77, 85, 76, 84, 73, 76, 73, 78, 69, 83, 84, 82, 73, 78, 71] else if k = 6 then [77, 85, 76, 84, 73, 80, 79, 76, 89, 71, 79, 78] else [71, 69, 79, 77, 69, 84, 82, 89, 67, 79, 76, 76, 69, 67, 84, 73, 79, 78]
/-- A type's tag. -/
def dimB (q : Int) : List Int := if q = 1 then [90] else if q = 2 then [77] else if q = 3 then [90, 77] else []
theorem nameB_len (k : Int) : (nameB k).length ≤ 18 := by unfold nameB; (repeat' split) <;> simp
theorem dimB_len (k : Int) : (dimB k).length ≤ 2 := by unfold dimB; (repeat' split) <;> simp

set_option maxRecDepth 100000 in
theorem kindName_any (k : Int) (k0 : 0 ≤ k) (k1 : k ≤ 6) (w : World) : Calls Tryz.prog 30 #[.int .i64 k] w fun e w' => e = .returned (.string (strOfNums (nameB k))) ∧ w' = w := by
  have h : k = 0 ∨ k = 1 ∨ k = 2 ∨ k = 3 ∨ k = 4 ∨ k = 5 ∨ k = 6 := by omega
  rcases h with rfl | rfl | rfl | rfl | rfl | rfl | rfl
  all_goals
    go_enter Tryz.func30, Tryz.ntmps30
    go_wp2
    go_ret
    exact ⟨rfl, rfl⟩
set_option maxRecDepth 100000 in
theorem dimName_any (k : Int) (k0 : 0 ≤ k) (k1 : k ≤ 3) (w : World) : Calls Tryz.prog 31 #[.int .i64 k] w fun e w' => e = .returned (.string (strOfNums (dimB k))) ∧ w' = w := by
  have h : k = 0 ∨ k = 1 ∨ k = 2 ∨ k = 3 := by omega
  rcases h with rfl | rfl | rfl | rfl
  all_goals
    go_enter Tryz.func31, Tryz.ntmps31
    go_wp2
    go_ret
    exact ⟨rfl, rfl⟩

end Go.Proofs.YtpbcfgehmalppaaGreatDoor
