/- The reference's GeoJSON of a place: Width, a list in brackets, a place. -/
import Derived.Test.YtpbcfgehmalppaaGreatDoorJsE
import Derived.Laws.Concat
namespace Go.Proofs.YtpbcfgehmalppaaGreatDoor
open Go.RowKit

set_option maxRecDepth 100000 in
theorem Width_any (q : Int) (q0 : 0 ≤ q) (q1 : q ≤ 3) (w : World) : Calls Tryz.prog 34 #[.int .i64 q] w fun e w' => e = .returned (.int .i64 (wd q)) ∧ w' = w := by
  have b0 : bits .and .i64 0 1 = 0 := by rw [i64_and1']; rfl
  have b1 : bits .and .i64 1 1 = 1 := by rw [i64_and1']; rfl
  have b2 : bits .and .i64 2 1 = 0 := by rw [i64_and1']; rfl
  have b3 : bits .and .i64 3 1 = 1 := by rw [i64_and1']; rfl
  rcases wd_cases q q0 q1 with ⟨rfl, h⟩ | ⟨rfl, h⟩ | ⟨rfl, h⟩ | ⟨rfl, h⟩ <;> rw [h] <;>
  · go_enter Tryz.func34, Tryz.ntmps34
    go_wp2
    go_ret
    exact ⟨rfl, rfl⟩

theorem strOfNums_app (a b : List Int) : strOfNums a ++ strOfNums b = strOfNums (a ++ b) := by
  have h := ByteArray.mk_append_mk (a.map fun n => UInt8.ofNat n.toNat) (b.map fun n => UInt8.ofNat n.toNat)
  rw [← List.map_append] at h
  exact h

/-- Texts with commas between them. -/
def joinJ (ps : List (List Int)) : Nat → List Int
  | 0 => []
  | k + 1 => (if 0 < k then joinJ ps k ++ [44] else joinJ ps k) ++ ps.getD k []
/-- A list in brackets. -/
def listJ (ps : List (List Int)) : List Int := [91] ++ joinJ ps ps.length ++ [93]

theorem joinJ_len {ps : List (List Int)} {L : Nat} (h : ∀ p ∈ ps, p.length ≤ L) : ∀ k, (joinJ ps k).length ≤ (L + 1) * k
  | 0 => by simp [joinJ]
  | k + 1 => by
    have ih := joinJ_len h k
    have hp : (ps.getD k []).length ≤ L := by
      rw [List.getD_eq_getElem?_getD]
      rcases Nat.lt_or_ge k ps.length with hk | hk
      · rw [List.getElem?_eq_getElem hk]; exact h _ (List.getElem_mem _)
      · rw [List.getElem?_eq_none hk]; simp
    have e : (L + 1) * (k + 1) = (L + 1) * k + (L + 1) := Nat.mul_succ _ _
    unfold joinJ
    split <;> simp only [List.length_append, List.length_cons, List.length_nil] <;> omega

/-- Strings as values. -/
def strsV (ps : List (List Int)) : List Value := ps.map fun p => .string (strOfNums p)
theorem strsV_length (ps : List (List Int)) : (strsV ps).length = ps.length := List.length_map _
theorem strsV_append (a b : List (List Int)) : strsV (a ++ b) = strsV a ++ strsV b := List.map_append

set_option maxHeartbeats 2000000 in
set_option maxRecDepth 100000 in
theorem jsonList_any {W0 w : World} {row : Option Nat} {v : Value} {ps : List (List Int)} (h : Rw 9 W0 w row v (strsV ps)) (hl : ∀ k, k ≤ ps.length → (joinJ ps k).length ≤ 1000000000000) (hp : ∀ p ∈ ps, p.length ≤ 1000000000000) (hn : ps.length ≤ 1000000000) :
    Calls Tryz.prog 67 #[v] w fun e w' => e = .returned (.string (strOfNums (listJ ps))) ∧ w' = w := by
  have hv : ∃ A c, v = .slice A ps.length c := by
    rcases h.own.2 with ⟨rfl, h0⟩ | ⟨g, cap, cur, rfl, _⟩
    · rw [strsV_length] at h0; rw [h0]; exact ⟨none, 0, rfl⟩
    · exact ⟨_, cap, by rw [strsV_length]⟩
  obtain ⟨A, c, rfl⟩ := hv
  generalize hnn : ps.length = n at *
  have HN := Lib.hid hnn
  have H := Lib.hid h
  have HL := Lib.hid hl
  have HP := Lib.hid hp
  clear hnn h hl hp
  go_enter Tryz.func67, Tryz.ntmps67
  go_wp2_with fail
  go_loopw [3, 8] (fun u i wr => ∃ (k : Nat) (S : ByteArray), k ≤ n ∧ i = .int .i64 k ∧ u = .string S ∧ Hid (S = strOfNums ([91] ++ joinJ ps k)) ∧ wr = w) (fun _ i _ => n - (intOf i).toNat)
  case atStart => exact ⟨0, ByteArray.mk #[91], Nat.zero_le _, rfl, rfl, rfl, rfl⟩
  case round =>
    obtain ⟨k, S, hk, rfl, rfl, HS, rfl⟩ := hrel
    have hSl : S.size ≤ 1000000000001 := by
      rw [HS.out, strOfNums_size, List.length_append]
      have := HL.out k hk
      simp only [List.length_cons, List.length_nil]
      omega
    by_cases hlt : k < n
    · obtain ⟨g, cp, hvv, hcc⟩ := H.out.cell (k := k) (by rw [strsV_length, HN.out]; exact hlt)
      injection hvv with hA _ hc
      subst hA
      have hkl : k < ps.length := by rw [HN.out]; exact hlt
      have hcell : wr.cell? ⟨g, k, none⟩ = some (.string (strOfNums (ps.getD k []))) := by
        rw [hcc]
        simp [strsV, List.getD_eq_getElem?_getD, List.getElem?_eq_getElem hkl]
      have hTl : (strOfNums (ps.getD k [])).size ≤ 1000000000000 := by
        rw [strOfNums_size, List.getD_eq_getElem?_getD, List.getElem?_eq_getElem hkl]
        exact HP.out _ (List.getElem_mem _)
      have hstep : joinJ ps (k + 1) = (if 0 < k then joinJ ps k ++ [44] else joinJ ps k) ++ ps.getD k [] := rfl
      have HST := Lib.hid hstep
      clear hcc hc hstep
      generalize hTT : strOfNums (ps.getD k []) = T at *
      have HTT := Lib.hid hTT
      clear hTT
      by_cases hk0 : 0 < k
      · go_wp2
        go_roundw
        case rel =>
          refine ⟨k + 1, _, by omega, by go_num, rfl, ?_, by first | rfl | trivial⟩
          show _ = _
          rw [HST.out, if_pos hk0, HS.out, ← HTT.out, show (ByteArray.mk #[44]) = strOfNums [44] from rfl, strOfNums_app, strOfNums_app]
          simp only [List.append_assoc]
        case measure => simp [intOf]; omega
      · obtain rfl : k = 0 := by omega
        go_wp2
        go_roundw
        case rel =>
          refine ⟨1, _, by omega, by go_num, rfl, ?_, by first | rfl | trivial⟩
          show _ = _
          rw [HST.out, if_neg (by omega), HS.out, ← HTT.out, strOfNums_app]
          simp only [List.append_assoc]
        case measure => simp [intOf]; omega
    · obtain rfl : n = k := by omega
      go_wp2
      go_ret
      refine ⟨?_, by first | rfl | trivial⟩
      have e : strOfNums (listJ ps) = S ++ ByteArray.mk #[93] := by
        unfold listJ
        rw [HS.out, HN.out, ← strOfNums_app]
        rfl
      rw [e]
      rfl

theorem info_str : (Tryz.prog.info? 9).map (fun i => (i.zero, i.size, i.bytes)) = some (some (.string ByteArray.empty), 1, 16) := by kernel_rfl

/-- The texts of numbers. -/
def txts (hi lo : Nat → Int) (ns : List Nat) : List (List Int) := ns.map (ftoaV hi lo)
theorem txts_len (hi lo : Nat → Int) {ns : List Nat} (h : ∀ b ∈ ns, b < 18446744073709551616) : ∀ p ∈ txts hi lo ns, p.length ≤ 1900 := by
  intro p hp
  obtain ⟨b, hb, rfl⟩ := List.mem_map.1 hp
  exact ftoaV_len hi lo b (h b hb)

theorem listJ_place (hi lo : Nat → Int) (q : Int) (p : Pl) : listJ (txts hi lo (plNums (q % 2) p)) = coordJ hi lo q p := by
  have h : q % 2 % 2 = q % 2 := by omega
  have h2 : q % 2 / 2 % 2 = 0 := by omega
  unfold plNums coordJ listJ txts
  rw [h, h2]
  rcases Int.emod_two_eq q with e | e <;> simp [e, joinJ]

set_option maxHeartbeats 4000000 in
set_option maxRecDepth 100000 in
theorem jsonPlace_any (x y z m : Nat) (q : Int) (hi lo : Nat → Int) (w : World) (ht : FtTabs w hi lo) (hx : x < 18446744073709551616) (hy : y < 18446744073709551616) (hz : z < 18446744073709551616) :
    Calls Tryz.prog 66 #[.agg #[.float .f64 x, .float .f64 y, .float .f64 z, .float .f64 m], .int .i64 q] w fun e w' => e = .returned (.string (strOfNums (coordJ hi lo q (x, y, z, m)))) ∧ Below w.heap.size w w' := by
  have hJ := listJ_place hi lo q (x, y, z, m)
  have hnl := plNums_len (q % 2) (x, y, z, m)
  have hns : ∀ b ∈ plNums (q % 2) (x, y, z, m), b < 18446744073709551616 := by
    intro b hb
    have h2 : q % 2 / 2 % 2 = 0 := by omega
    unfold plNums at hb
    rw [h2] at hb
    simp only [List.mem_append, List.mem_cons, List.mem_nil_iff, or_false] at hb
    rcases hb with (rfl | rfl) | hb | hb
    · exact hx
    · exact hy
    · split at hb <;> simp at hb; subst hb; exact hz
    · simp at hb
  have hNums := Nums_any (q % 2) [(x, y, z, m)] (w.heap.size + 1) 1 _ (fun _ => rfl) ((w.alloc (.cells #[.float .f64 x, .float .f64 y, .float .f64 z, .float .f64 m] 88)).alloc (.cells #[.float .f64 x, .float .f64 y, .float .f64 z, .float .f64 m] 88)) (fun i p hp => by
    rcases i with _ | i
    · injection hp with hp
      subst hp
      have h := Blk.new (w.alloc (.cells #[.float .f64 x, .float .f64 y, .float .f64 z, .float .f64 m] 88)) 88 #[.float .f64 x, .float .f64 y, .float .f64 z, .float .f64 m]
      rw [World.size_alloc] at h
      exact ⟨h.cell 0, h.cell 1, h.cell 2, h.cell 3⟩
    · simp at hp) (by show 1 ≤ 1000000000; omega)
  have epl : plsNums (q % 2) [(x, y, z, m)] = plNums (q % 2) (x, y, z, m) := by simp [plsNums]
  rw [epl] at hNums
  generalize plNums (q % 2) (x, y, z, m) = ns at *
  have hfl : (flV ns).length = ns.length := flV_length ns
  have htl : (txts hi lo ns).length = ns.length := List.length_map _
  have htx := txts_len hi lo hns
  have hjl := joinJ_len htx
  generalize hn : ns.length = n at *
  have hqa := i64_and1' q
  have hb0 : Below w.heap.size w ((w.alloc (.cells #[.float .f64 x, .float .f64 y, .float .f64 z, .float .f64 m] 88)).alloc (.cells #[.float .f64 x, .float .f64 y, .float .f64 z, .float .f64 m] 88)) := ((Below.refl _ _).alloc (Nat.le_refl _) _).alloc (by simp) _
  have HN := Lib.hid hn
  have HFL := Lib.hid hfl
  have HTL := Lib.hid htl
  have HTX := Lib.hid htx
  have HJL := Lib.hid hjl
  have HNS := Lib.hid hns
  have HJ := Lib.hid hJ
  have HNU := Lib.hid hNums
  have HB0 := Lib.hid hb0
  have HT := Lib.hid ht
  obtain ⟨i0, hi0, hz0, hz1, hz2⟩ := info_parts info_str
  clear hn hfl htl htx hjl hns hJ hNums hb0 ht epl
  go_enter Tryz.func66, Tryz.ntmps66
  go_wp2_with fail
  refine HNU.out.mono ?_
  rintro e w1 ⟨v1, rfl, k1⟩
  have hv1 : ∃ A c, v1 = .slice A n c := by
    rcases k1.own.2 with ⟨rfl, h⟩ | ⟨g, cap, cur, rfl, _⟩
    · rw [HFL.out] at h; subst h; exact ⟨none, 0, rfl⟩
    · exact ⟨_, cap, by rw [HFL.out]⟩
  obtain ⟨A, c, rfl⟩ := hv1
  have K1 := Lib.hid k1
  have HB1 := Lib.hid (HB0.out.trans (k1.below0.mono (by simp; omega)))
  clear k1
  go_wp2_with fail
  go_loopw [5, 14] (fun u i wr => ∃ k : Nat, k ≤ n ∧ i = .int .i64 k ∧ Rw 9 w1 wr none u (strsV ((txts hi lo ns).take k))) (fun _ i _ => n - (intOf i).toNat)
  case atStart => exact ⟨0, Nat.zero_le _, rfl, Rw.nil _ _⟩
  case round =>
    obtain ⟨k, hk, rfl, h1⟩ := hrel
    by_cases hlt : k < n
    · obtain ⟨g, cp, hvv, hcc⟩ := K1.out.cell (k := k) (by rw [HFL.out]; omega)
      rw [HFL.out] at hvv
      injection hvv with hA _ hc
      subst hA
      have hkl : k < ns.length := by rw [HN.out]; exact hlt
      have hcell : wr.cell? ⟨g, k, none⟩ = some (.float .f64 ns[k]) := by
        have h2 : (flV ns)[k]'(by rw [HFL.out]; omega) = .float .f64 ns[k] := by simp [flV]
        rw [h2] at hcc
        exact (h1.below0.cell (World.block_lt_of_cell? w1 _ hcc)).trans hcc
      have hkb : ns[k] < 18446744073709551616 := HNS.out _ (List.getElem_mem _)
      have hts : (txts hi lo ns).take (k + 1) = (txts hi lo ns).take k ++ [ftoaV hi lo ns[k]] := by
        rw [take_snoc' _ k (by rw [HTL.out]; exact hlt)]
        simp [txts]
      have hlen : (strsV ((txts hi lo ns).take k)).length ≤ 4 := by
        rw [strsV_length]
        have := List.length_take_le k (txts hi lo ns)
        omega
      have HTS := Lib.hid hts
      have HTB := Lib.hid (((HT.out.below HB1.out).below h1.below0))
      clear hcc hc hts
      generalize ns[k] = b at *
      generalize hxs : strsV ((txts hi lo ns).take k) = xs at *
      have HX := Lib.hid hxs
      have HKB := Lib.hid hkb
      have H1 := Lib.hid h1
      clear hxs hkb h1
      go_wp2_with fail
      refine (WriteNumber_any b hi lo _ HTB.out HKB.out).mono ?_
      rintro e w2 ⟨rfl, h2⟩
      have h3 : Rw 9 w1 w2 none u5 xs := H1.out.below h2
      clear h2
      generalize hTT : strOfNums (ftoaV hi lo b) = T at *
      have HTT := Lib.hid hTT
      clear hTT
      go_wp2_with (at_builtin; refine wpList_rw_append rfl _ _ _ rfl Tryz.underlying36 hi0 hz0 rfl hz1 hz2 rfl rfl (by assumption) (by first | rfl | simp) rfl (by simp [Value.oneCell']) (by first | omega | (simp only [len_appV, List.length_cons, List.length_nil]; omega)) (by first | omega | (simp only [len_appV, List.length_cons, List.length_nil]; omega)) ?_; intro v1 W1 h2)
      go_roundw
      case rel =>
        refine ⟨k + 1, by omega, by go_num, ?_⟩
        rw [HTS.out, strsV_append, HX.out]
        have e : strsV [ftoaV hi lo b] = [.string T] := by rw [← HTT.out]; rfl
        rw [e]
        exact h2
      case measure => simp [intOf]; omega
    · obtain rfl : n = k := by omega
      rw [List.take_of_length_le (by rw [HTL.out]; exact Nat.le_refl _)] at h1
      have hL := jsonList_any h1 (fun k hk => by have := HJL.out k; rw [HTL.out] at hk; omega) (fun p hp => by have := HTX.out p hp; omega) (by rw [HTL.out]; omega)
      have HLL := Lib.hid hL
      have H1 := Lib.hid h1
      clear hL h1
      go_wp2_with fail
      refine HLL.out.mono ?_
      rintro e w2 ⟨rfl, rfl⟩
      go_wp2
      go_ret
      refine ⟨by rw [HJ.out]; rfl, HB1.out.trans (H1.out.below0.mono HB1.out.size)⟩

end Go.Proofs.YtpbcfgehmalppaaGreatDoor
