/- A place written by the package and by the reference. -/
import Derived.Test.YtpbcfgehmalppaaDoorFtH
import Derived.Test.YtpbcfgehmalppaaDoorFtI
import Derived.Laws.Concat
namespace Go.Proofs.YtpbcfgehmalppaaDoor
open Go.RowKit

/-- A place as in texts. -/
def placeV (hi lo : Nat → Int) (x y z m : Nat) (t : Int) (par : Bool) : List Int :=
  (if par then [40] else []) ++ (ftoaV hi lo x ++ ([32] ++ (ftoaV hi lo y ++ ((if t % 2 = 1 then [32] ++ ftoaV hi lo z else []) ++ ((if t / 2 % 2 = 1 then [32] ++ ftoaV hi lo m else []) ++ (if par then [41] else []))))))

theorem wktPlace_any (x y z m : Nat) (t : Int) (par : Bool) (hi lo : Nat → Int) (w : World) (v : Value) (bs : List Int) (ho : Own w v bs) (ht : FtTabs w hi lo) (hx : x < 18446744073709551616) (hy : y < 18446744073709551616) (hz : z < 18446744073709551616) (hm : m < 18446744073709551616)
    (hrow : ∀ k, k < 7 → v.ownBlock ≠ some k) (hl : bs.length ≤ 70368744100000) (ht0 : 0 ≤ t) (ht1 : t ≤ 3) :
    Calls Tryd.prog 46 #[v, .agg #[.float .f64 x, .float .f64 y, .float .f64 z, .float .f64 m, .int .u8 t], .bool par] w fun e w' =>
      ∃ v', e = .returned v' ∧ Bf w w' v.ownBlock v' (bs ++ placeV hi lo x y z m t par) := by
  have h : t = 0 ∨ t = 1 ∨ t = 2 ∨ t = 3 := by omega
  rcases h with rfl | rfl | rfl | rfl <;> cases par
  · simpa [placeV] using wktPlace_00 x y z m hi lo w v bs ho ht hx hy hz hm hrow hl
  · simpa [placeV] using wktPlace_01 x y z m hi lo w v bs ho ht hx hy hz hm hrow hl
  · simpa [placeV] using wktPlace_10 x y z m hi lo w v bs ho ht hx hy hz hm hrow hl
  · simpa [placeV] using wktPlace_11 x y z m hi lo w v bs ho ht hx hy hz hm hrow hl
  · simpa [placeV] using wktPlace_20 x y z m hi lo w v bs ho ht hx hy hz hm hrow hl
  · simpa [placeV] using wktPlace_21 x y z m hi lo w v bs ho ht hx hy hz hm hrow hl
  · simpa [placeV] using wktPlace_30 x y z m hi lo w v bs ho ht hx hy hz hm hrow hl
  · simpa [placeV] using wktPlace_31 x y z m hi lo w v bs ho ht hx hy hz hm hrow hl

theorem door_any (x y z m : Nat) (t : Int) (par : Bool) (hi lo : Nat → Int) (w : World) (ht : FtTabs w hi lo) (hx : x < 18446744073709551616) (hy : y < 18446744073709551616) (hz : z < 18446744073709551616) (hm : m < 18446744073709551616) (ht0 : 0 ≤ t) (ht1 : t ≤ 3) :
    Calls Tryd.prog 24 #[.agg #[.float .f64 x, .float .f64 y, .float .f64 z, .float .f64 m, .int .u8 t], .bool par] w fun e w' =>
      ∃ v', e = .returned v' ∧ Bf w w' none v' (placeV hi lo x y z m t par) := by
  have ht2 := ht.grown (World.grownBy_alloc w (.cells #[.float .f64 x, .float .f64 y, .float .f64 z, .float .f64 m, .int .u8 t] 62) none) (by simp)
  have hg : w.grownBy (w.alloc (.cells #[.float .f64 x, .float .f64 y, .float .f64 z, .float .f64 m, .int .u8 t] 62)) none := World.grownBy_alloc w _ none
  have HT := Lib.hid ht2
  have HG := Lib.hid hg
  clear ht2 hg ht
  go_enter Tryd.func24, Tryd.ntmps24
  go_wp2_with fail
  refine (wktPlace_any x y z m t par hi lo _ (.slice none 0 0) [] (World.ownsRow_nil _ _ _ _) HT.out hx hy hz hm (by simp [Value.ownBlock]) (by rw [List.length_nil]; exact Nat.zero_le _) ht0 ht1).mono ?_
  rintro e w1 ⟨v1, rfl, h1⟩
  rw [List.nil_append] at h1
  have H1 := Lib.hid h1
  clear h1
  go_wp2
  go_ret
  exact ⟨_, rfl, H1.out.pre_none HG.out⟩

theorem below_pre {w w2 w3 : World} (hg : w.grownBy w2 none) (h : Below w2.heap.size w2 w3) : Below w.heap.size w w3 :=
  ⟨h.os.trans hg.os, h.tape.trans hg.tape, h.output.trans hg.output, Nat.le_trans hg.size h.size, fun i hi => (h.block i (Nat.lt_of_lt_of_le hi hg.size)).trans (hg.block i hi (by simp))⟩
theorem below_bf {w w' : World} {v : Value} {bs : List Int} (h : Bf w w' none v bs) : Below w.heap.size w w' := ⟨h.grown.os, h.grown.tape, h.grown.output, h.grown.size, fun i hi => h.grown.block i hi (by simp)⟩
theorem below_trans' {w w1 w2 : World} (h : Below w.heap.size w w1) (k : Below w1.heap.size w1 w2) : Below w.heap.size w w2 := h.trans (k.mono h.size)

theorem WritePlace_any (x y z m : Nat) (d : Int) (par : Bool) (hi lo : Nat → Int) (w : World) (ht : FtTabs w hi lo) (hx : x < 18446744073709551616) (hy : y < 18446744073709551616) (hz : z < 18446744073709551616) (hm : m < 18446744073709551616) :
    Calls Tryd.prog 9 #[.agg #[.float .f64 x, .float .f64 y, .float .f64 z, .float .f64 m, .int .i64 d], .bool par] w fun e w' =>
      e = .returned (.string (strOfNums (placeV hi lo x y z m (d % 4) par))) ∧ Below w.heap.size w w' := by
  have hg : w.grownBy (w.alloc (.cells #[.float .f64 x, .float .f64 y, .float .f64 z, .float .f64 m, .int .i64 d] 24)) none := World.grownBy_alloc w _ none
  have ht2 := ht.grown hg (by simp)
  have HT := Lib.hid ht2
  have HG := Lib.hid hg
  clear ht2 hg ht
  go_enter Tryd.func9, Tryd.ntmps9
  go_wp2_with fail
  refine (coordinates_any x y z m d _).mono ?_
  rintro e w1 ⟨rfl, h1⟩
  have H1 := Lib.hid h1
  clear h1
  go_wp2_with fail
  refine (door_any x y z m (d % 4) par hi lo _ (HT.out.below H1.out) hx hy hz hm (by omega) (by omega)).mono ?_
  rintro e w2 ⟨v2, rfl, h2⟩
  have hcv := own_string (P := Tryd.prog) (src := 32) (dst := 9) Tryd.underlying32 Tryd.underlying5 Tryd.underlying9 h2.own_
  have H2 := Lib.hid h2
  clear h2
  go_wp2
  go_ret
  exact ⟨rfl, below_pre HG.out (below_trans' H1.out (below_bf H2.out))⟩

theorem PlAt.one {w : World} {g T x y z m : Nat} (h : Blk w g T #[.float .f64 x, .float .f64 y, .float .f64 z, .float .f64 m]) : PlAt w g [(x, y, z, m)] := by
  intro i p hp
  rcases i with _ | i
  · injection hp with hp
    subst hp
    exact ⟨h.cell 0, h.cell 1, h.cell 2, h.cell 3⟩
  · simp at hp

theorem Rw.pre_none {e : TypeId} {w w2 w3 : World} {row : Option Nat} {v : Value} {xs : List Value} (h : Rw e w2 w3 row v xs) (hg : w.grownBy w2 none) : Rw e w w3 row v xs :=
  ⟨h.own, ⟨h.grown.os.trans hg.os, h.grown.tape.trans hg.tape, h.grown.output.trans hg.output, Nat.le_trans hg.size h.grown.size, fun k hk hne =>
    (h.grown.block k (Nat.lt_of_lt_of_le hk hg.size) hne).trans (hg.block k hk (by simp))⟩,
   h.place.imp id fun ⟨b, hb, hl⟩ => ⟨b, hb, Nat.le_trans hg.size hl⟩⟩

set_option maxHeartbeats 1000000 in
theorem pNums_any (x y z m : Nat) (d : Int) (w : World) :
    Calls Tryd.prog 7 #[.agg #[.float .f64 x, .float .f64 y, .float .f64 z, .float .f64 m, .int .i64 d]] w fun e w' =>
      ∃ v, e = .returned v ∧ Rw 22 w w' none v (flV (plNums d (x, y, z, m))) := by
  go_enter Tryd.func7, Tryd.ntmps7
  go_wp2_with fail
  refine (Nums_any d [(x, y, z, m)] (w.heap.size + 1) 1 _ (fun _ => rfl) _ (PlAt.one (T := 54) ?_) (by show 1 ≤ 1000000000; omega)).mono ?_
  · have h := Blk.new (w.alloc (.cells #[.float .f64 x, .float .f64 y, .float .f64 z, .float .f64 m, .int .i64 d] 24)) 54 #[.float .f64 x, .float .f64 y, .float .f64 z, .float .f64 m]
    simpa using h
  rintro e w1 ⟨v1, rfl, h1⟩
  go_wp2
  go_ret
  refine ⟨_, rfl, ?_⟩
  have hg := only_alloc (World.grownBy_alloc w (.cells #[.float .f64 x, .float .f64 y, .float .f64 z, .float .f64 m, .int .i64 d] 24) none) (.cells #[.float .f64 x, .float .f64 y, .float .f64 z, .float .f64 m] 54)
  have e : plsNums d [(x, y, z, m)] = plNums d (x, y, z, m) := by simp [plsNums]
  rw [← e]
  exact h1.pre_none hg

/-- Numbers as texts with single blanks between them. -/
def joinV (hi lo : Nat → Int) : List Nat → Nat → List Int
  | ns, 0 => []
  | ns, k + 1 => (if 0 < k then joinV hi lo ns k ++ [32] else joinV hi lo ns k) ++ ftoaV hi lo (ns.getD k 0)

theorem joinV_len (hi lo : Nat → Int) (ns : List Nat) (hns : ∀ b ∈ ns, b < 18446744073709551616) : ∀ k, k ≤ ns.length → (joinV hi lo ns k).length ≤ 2000 * k
  | 0, _ => by simp [joinV]
  | k + 1, h => by
    have ih := joinV_len hi lo ns hns k (by omega)
    have hb : ns.getD k 0 < 18446744073709551616 := by
      rw [List.getD_eq_getElem?_getD, List.getElem?_eq_getElem (by omega)]
      exact hns _ (List.getElem_mem _)
    have hl := ftoaV_len hi lo _ hb
    unfold joinV
    split <;> simp only [List.length_append, List.length_cons, List.length_nil] <;> omega

theorem joinV_place (hi lo : Nat → Int) (x y z m : Nat) (d : Int) (h0 : 0 ≤ d) (h1 : d ≤ 3) (par : Bool) :
    (if par then [40] ++ joinV hi lo (plNums d (x, y, z, m)) (plNums d (x, y, z, m)).length ++ [41] else joinV hi lo (plNums d (x, y, z, m)) (plNums d (x, y, z, m)).length) = placeV hi lo x y z m (d % 4) par := by
  have h : d = 0 ∨ d = 1 ∨ d = 2 ∨ d = 3 := by omega
  rcases h with rfl | rfl | rfl | rfl <;> cases par <;> simp [plNums, joinV, placeV]

theorem strOfNums_append (a b : List Int) : strOfNums a ++ strOfNums b = strOfNums (a ++ b) := by
  have h := ByteArray.mk_append_mk (a.map fun n => UInt8.ofNat n.toNat) (b.map fun n => UInt8.ofNat n.toNat)
  rw [← List.map_append] at h
  exact h

set_option maxHeartbeats 4000000 in
set_option maxRecDepth 100000 in
theorem law_in (x y z m : Nat) (d : Int) (par : Bool) (hi lo : Nat → Int) (w : World) (ht : FtTabs w hi lo) (hx : x < 18446744073709551616) (hy : y < 18446744073709551616) (hz : z < 18446744073709551616) (hm : m < 18446744073709551616) (h0 : 0 ≤ d) (h1 : d ≤ 3) :
    Calls Tryd.prog 3 #[.agg #[.float .f64 x, .float .f64 y, .float .f64 z, .float .f64 m, .int .i64 d], .bool par] w fun e w' =>
      e = .returned (.bool true) ∧ Below w.heap.size w w' := by
  have hg : w.grownBy (w.alloc (.cells #[.float .f64 x, .float .f64 y, .float .f64 z, .float .f64 m, .int .i64 d] 24)) none := World.grownBy_alloc w _ none
  have hbox : Blk (w.alloc (.cells #[.float .f64 x, .float .f64 y, .float .f64 z, .float .f64 m, .int .i64 d] 24)) w.heap.size 24 #[.float .f64 x, .float .f64 y, .float .f64 z, .float .f64 m, .int .i64 d] := Blk.new w _ _
  have ht2 := ht.grown hg (by simp)
  have hns : ∀ b ∈ plNums d (x, y, z, m), b < 18446744073709551616 := by
    intro b hb
    unfold plNums at hb
    simp only [List.mem_append, List.mem_cons, List.mem_nil_iff, or_false] at hb
    rcases hb with (rfl | rfl) | hb | hb
    · exact hx
    · exact hy
    · split at hb <;> simp at hb; subst hb; exact hz
    · split at hb <;> simp at hb; subst hb; exact hm
  have hJ := joinV_place hi lo x y z m d h0 h1 par
  have hJL := joinV_len hi lo _ hns
  have hnl := plNums_len d (x, y, z, m)
  have HT := Lib.hid ht2
  have HG := Lib.hid hg
  have HB := Lib.hid hbox
  clear ht2 hg ht hbox
  go_enter Tryd.func3, Tryd.ntmps3
  go_wp2_with fail
  refine (pNums_any x y z m d _).mono ?_
  rintro e w1 ⟨v1, rfl, k1⟩
  generalize plNums d (x, y, z, m) = ns at *
  have hfl : (flV ns).length = ns.length := flV_length ns
  generalize hn : ns.length = n at *
  have HN := Lib.hid hn
  have HFL := Lib.hid hfl
  have HJ := Lib.hid hJ
  have HJL := Lib.hid hJL
  have HNS := Lib.hid hns
  have hv1 : ∃ A c, v1 = .slice A n c := by
    rcases k1.own.2 with ⟨rfl, h⟩ | ⟨g, cap, cur, rfl, _⟩
    · rw [hfl] at h; subst h; exact ⟨none, 0, rfl⟩
    · exact ⟨_, cap, by rw [hfl]⟩
  obtain ⟨A, c, rfl⟩ := hv1
  have K1 := Lib.hid k1
  clear hn hfl hJ hJL hns k1
  have hd0 : decide (d < 0) = false := decide_eq_false (by omega)
  have hd3 : decide (3 < d) = false := decide_eq_false (by omega)
  go_wp2_with fail
  go_loopw [5, 19] (fun u i wr => ∃ (k : Nat) (S : ByteArray), k ≤ n ∧ i = .int .i64 k ∧ u = .string S ∧ Hid (S = strOfNums (joinV hi lo ns k)) ∧ Below w1.heap.size w1 wr) (fun _ i _ => n - (intOf i).toNat)
  case atStart => exact ⟨0, ByteArray.mk #[], Nat.zero_le _, rfl, rfl, rfl, Below.refl _ _⟩
  case round =>
    obtain ⟨k, S, hk, rfl, rfl, HS, hb⟩ := hrel
    have hSl : S.size ≤ 10000 := by
      rw [HS.out, strOfNums_size]
      have := HJL.out k hk
      omega
    by_cases hlt : k < n
    · obtain ⟨g, cp, hvv, hcc⟩ := K1.out.cell (k := k) (by rw [HFL.out]; omega)
      rw [HFL.out] at hvv
      injection hvv with hA _ hc
      subst hA
      have hcell : wr.cell? ⟨g, k, none⟩ = some (.float .f64 (ns.getD k 0)) := by
        have h2 : (flV ns)[k]'(by rw [HFL.out]; omega) = .float .f64 (ns.getD k 0) := by
          unfold flV
          rw [List.getElem_map, List.getD_eq_getElem?_getD, List.getElem?_eq_getElem (by rw [HN.out]; exact hlt)]
          rfl
        rw [h2] at hcc
        exact (hb.cell (World.block_lt_of_cell? w1 _ hcc)).trans hcc
      have hkb : ns.getD k 0 < 18446744073709551616 := by
        rw [List.getD_eq_getElem?_getD, List.getElem?_eq_getElem (by rw [HN.out]; exact hlt)]
        exact HNS.out _ (List.getElem_mem _)
      have hTl : (strOfNums (ftoaV hi lo (ns.getD k 0))).size ≤ 1900 := by rw [strOfNums_size]; exact ftoaV_len hi lo _ hkb
      have hstep : joinV hi lo ns (k + 1) = (if 0 < k then joinV hi lo ns k ++ [32] else joinV hi lo ns k) ++ ftoaV hi lo (ns.getD k 0) := rfl
      have HST := Lib.hid hstep
      have HTB : FtTabs wr hi lo := (HT.out.below K1.out.below0).below hb
      have HTB' := Lib.hid HTB
      clear hcc hc hstep HTB
      generalize ns.getD k 0 = b at *
      have HKB := Lib.hid hkb
      clear hkb
      by_cases hk0 : 0 < k
      · go_wp2_with fail
        refine (WriteNumber_any b hi lo _ HTB'.out HKB.out).mono ?_
        rintro e w2 ⟨rfl, h2⟩
        have H2 := Lib.hid h2
        clear h2
        generalize hTT : strOfNums (ftoaV hi lo b) = T at *
        have HTT := Lib.hid hTT
        clear hTT
        go_wp2
        go_roundw
        case rel =>
          refine ⟨k + 1, _, by omega, by go_num, rfl, ?_, below_trans' hb H2.out⟩
          show _ = _
          rw [HST.out, if_pos hk0, HS.out, ← HTT.out, ← strOfNums_append, ← strOfNums_append]
          rfl
        case measure => simp [intOf]; omega
      · obtain rfl : k = 0 := by omega
        go_wp2_with fail
        refine (WriteNumber_any b hi lo _ HTB'.out HKB.out).mono ?_
        rintro e w2 ⟨rfl, h2⟩
        have H2 := Lib.hid h2
        clear h2
        generalize hTT : strOfNums (ftoaV hi lo b) = T at *
        have HTT := Lib.hid hTT
        clear hTT
        go_wp2
        go_roundw
        case rel =>
          refine ⟨1, _, by omega, by go_num, rfl, ?_, below_trans' hb H2.out⟩
          show _ = _
          rw [HST.out, if_neg (by omega), HS.out, ← HTT.out, ← strOfNums_append]
        case measure => simp [intOf]; omega
    · obtain rfl : n = k := by omega
      have hbx := (HB.out.below K1.out.below0 (by simp)).below hb (Nat.lt_of_lt_of_le (by simp) K1.out.below0.size)
      have c0 : wr.cell? ⟨w.heap.size, 0, none⟩ = some (.float .f64 x) := hbx.cell 0
      have c1 : wr.cell? ⟨w.heap.size, 1, none⟩ = some (.float .f64 y) := hbx.cell 1
      have c2 : wr.cell? ⟨w.heap.size, 2, none⟩ = some (.float .f64 z) := hbx.cell 2
      have c3 : wr.cell? ⟨w.heap.size, 3, none⟩ = some (.float .f64 m) := hbx.cell 3
      have c4 : wr.cell? ⟨w.heap.size, 4, none⟩ = some (.int .i64 d) := hbx.cell 4
      have HTB := Lib.hid ((HT.out.below K1.out.below0).below hb)
      clear hbx
      cases par
      · go_wp2_with fail
        refine (WritePlace_any x y z m d false hi lo _ HTB.out hx hy hz hm).mono ?_
        rintro e w2 ⟨rfl, h2⟩
        have H2 := Lib.hid h2
        clear h2
        go_wp2_with fail
        go_ret
        have hS : S = strOfNums (placeV hi lo x y z m (d % 4) false) := by
          have h := HJ.out
          rw [if_neg (by simp)] at h
          rw [HS.out, h]
        have hq : ((strOfNums (placeV hi lo x y z m (d % 4) false)).toList == (S).toList) = true := by rw [hS]; simp
        refine ⟨?_, below_pre HG.out (below_trans' K1.out.below0 (below_trans' hb H2.out))⟩
        exact congrArg (fun b => Ending.returned (Value.bool b)) hq
      · go_wp2_with fail
        refine (WritePlace_any x y z m d true hi lo _ HTB.out hx hy hz hm).mono ?_
        rintro e w2 ⟨rfl, h2⟩
        have H2 := Lib.hid h2
        clear h2
        go_wp2_with fail
        go_ret
        have hS : ByteArray.mk #[40] ++ S ++ ByteArray.mk #[41] = strOfNums (placeV hi lo x y z m (d % 4) true) := by
          have h := HJ.out
          rw [if_pos trivial] at h
          rw [HS.out, ← h, ← strOfNums_append, ← strOfNums_append]
          rfl
        have hq : ((strOfNums (placeV hi lo x y z m (d % 4) true)).toList == (ByteArray.mk #[40] ++ S ++ ByteArray.mk #[41]).toList) = true := by rw [hS]; simp
        refine ⟨?_, below_pre HG.out (below_trans' K1.out.below0 (below_trans' hb H2.out))⟩
        exact congrArg (fun b => Ending.returned (Value.bool b)) hq

set_option maxRecDepth 100000 in
theorem law_out (x y z m : Nat) (d : Int) (par : Bool) (w : World) (h : d < 0 ∨ 3 < d) :
    Calls Tryd.prog 3 #[.agg #[.float .f64 x, .float .f64 y, .float .f64 z, .float .f64 m, .int .i64 d], .bool par] w fun e w' =>
      e = .returned (.bool true) ∧ Below w.heap.size w w' := by
  rcases h with h | h
  · go_enter Tryd.func3, Tryd.ntmps3
    go_wp2_with fail
    go_ret
    exact ⟨rfl, (Below.refl _ _).alloc (Nat.le_refl _) _⟩
  · have h2 : ¬ d < 0 := by omega
    go_enter Tryd.func3, Tryd.ntmps3
    go_wp2_with fail
    go_ret
    exact ⟨rfl, (Below.refl _ _).alloc (Nat.le_refl _) _⟩

theorem law_any (x y z m : Nat) (d : Int) (par : Bool) (hi lo : Nat → Int) (w : World) (ht : FtTabs w hi lo) (hx : x < 18446744073709551616) (hy : y < 18446744073709551616) (hz : z < 18446744073709551616) (hm : m < 18446744073709551616) :
    Calls Tryd.prog 3 #[.agg #[.float .f64 x, .float .f64 y, .float .f64 z, .float .f64 m, .int .i64 d], .bool par] w fun e w' =>
      e = .returned (.bool true) ∧ Below w.heap.size w w' := by
  by_cases h : 0 ≤ d ∧ d ≤ 3
  · exact law_in x y z m d par hi lo w ht hx hy hz hm h.1 h.2
  · exact law_out x y z m d par w (by omega)

end Go.Proofs.YtpbcfgehmalppaaDoor
