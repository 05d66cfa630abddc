/- The package's text of a line string: what is put behind what stands in a buffer. -/
import Derived.Test.YtpbcfgehmalppaaGreatDoorPgI
import Derived.Test.YtpbcfgehmalppaaGreatDoorPgF
import Derived.Test.YtpbcfgehmalppaaGreatDoorFtH
namespace Go.Proofs.YtpbcfgehmalppaaGreatDoor
open Go.RowKit

/-- What stands between a name and a bracket. -/
def tagB (q : Int) : List Int := if q = 0 then [] else if q = 1 then [32, 90, 32] else if q = 2 then [32, 77, 32] else [32, 90, 77, 32]
theorem tagB_len (q : Int) : (tagB q).length ≤ 4 := by unfold tagB; (repeat' split) <;> simp

set_option maxRecDepth 100000 in
theorem run_tags (q : Int) (t : ByteArray) (h : (q = 0 ∧ t = { data := #[] }) ∨ (q = 1 ∧ t = { data := #[32, 90, 32] }) ∨ (q = 2 ∧ t = { data := #[32, 77, 32] }) ∨ (q = 3 ∧ t = { data := #[32, 90, 77, 32] })) (w : World) :
    (Instr.index 149 (.agg #[.string { data := #[] }, .string { data := #[32, 90, 32] }, .string { data := #[32, 77, 32] }, .string { data := #[32, 90, 77, 32] }]) (.int .u8 q)).run Tryz.prog w = .ok (.string t) w := by
  rcases h with ⟨rfl, rfl⟩ | ⟨rfl, rfl⟩ | ⟨rfl, rfl⟩ | ⟨rfl, rfl⟩ <;> rfl

set_option maxHeartbeats 1000000 in
set_option maxRecDepth 100000 in
theorem header_any (nm : ByteArray) (q : Int) (q0 : 0 ≤ q) (q1 : q ≤ 3) (w : World) (v : Value) (bs : List Int) (ho : Own w v bs) (hl : bs.length + nm.size ≤ 70368744100000) :
    Calls Tryz.prog 108 #[v, .string nm, .int .u8 q] w fun e w' => ∃ v', e = .returned v' ∧ Bf w w' v.ownBlock v' (bs ++ strB nm ++ tagB q) := by
  obtain ⟨i0, hi0, hz0, hz1, hz2⟩ := info_parts info_u8
  obtain ⟨t, htag, htb⟩ : ∃ t : ByteArray, ((q = 0 ∧ t = { data := #[] }) ∨ (q = 1 ∧ t = { data := #[32, 90, 32] }) ∨ (q = 2 ∧ t = { data := #[32, 77, 32] }) ∨ (q = 3 ∧ t = { data := #[32, 90, 77, 32] })) ∧ tagB q = strB t := by
    have h : q = 0 ∨ q = 1 ∨ q = 2 ∨ q = 3 := by omega
    rcases h with rfl | rfl | rfl | rfl
    · exact ⟨_, .inl ⟨rfl, rfl⟩, rfl⟩
    · exact ⟨_, .inr (.inl ⟨rfl, rfl⟩), rfl⟩
    · exact ⟨_, .inr (.inr (.inl ⟨rfl, rfl⟩)), rfl⟩
    · exact ⟨_, .inr (.inr (.inr ⟨rfl, rfl⟩)), rfl⟩
  have htl : t.size ≤ 4 := by rw [← strB_length, ← htb]; exact tagB_len q
  have hrun := run_tags q t htag
  have h1 : Bf w w v.ownBlock v bs := Bf.start ho
  have hsl := strB_length nm
  have HTB := Lib.hid htb
  have HSL := Lib.hid hsl
  clear htag htb hsl ho
  go_enter Tryz.func108, Tryz.ntmps108
  go_wp2_with (at_builtin; refine wpList_bf_append_str rfl _ _ _ _ rfl Tryz.underlying30 Tryz.underlying9 hi0 hz0 hz1 hz2 rfl rfl (by assumption) (by first | omega | (rw [len_app, HSL.out]; omega)) ?_; intro v1 W1 h1)
  go_ret
  refine ⟨_, rfl, ?_⟩
  rw [HTB.out]
  exact h1

/-- What appendWKTEmpty puts behind bs. -/
def emptyO (bs : List Int) : List Int := (if bs.getLast? = some 40 ∨ bs.getLast? = some 44 ∨ bs.getLast? = some 32 then [] else [32]) ++ emptyB'
where emptyB' : List Int := [69, 77, 80, 84, 89]

theorem own_last {w : World} {v : Value} {bs : List Int} {n : Nat} (h : Own w v bs) (hn : bs.length = n + 1) : ∃ g c b, v = .slice (some ⟨g, 0, none⟩) (n + 1) c ∧ bs.getLast? = some b ∧ w.cell? ⟨g, n, none⟩ = some (.int .u8 b) := by
  rcases h.2 with ⟨rfl, h0⟩ | ⟨g, cap, cur, rfl, _⟩
  · omega
  · obtain ⟨b, hg⟩ : ∃ b, bs[n]? = some b := ⟨_, List.getElem?_eq_getElem (by omega)⟩
    refine ⟨g, cap, b, by rw [hn], by rw [List.getLast?_eq_getElem?, hn]; exact hg, ?_⟩
    have hc := World.ownsRow.cells h (g := g) rfl n (.int .u8 b) (by rw [bytesV, List.getElem?_map, hg]; rfl)
    have ha : (⟨g, 0, none⟩ : Addr).add n = ⟨g, n, none⟩ := by unfold Addr.add; split <;> simp_all
    rwa [ha] at hc

set_option maxHeartbeats 2000000 in
set_option maxRecDepth 100000 in
theorem empty_any (w : World) (v : Value) (bs : List Int) (n : Nat) (hn : bs.length = n + 1) (ho : Own w v bs) (hl : bs.length ≤ 70368744100000) :
    Calls Tryz.prog 115 #[v] w fun e w' => ∃ v', e = .returned v' ∧ Bf w w' v.ownBlock v' (bs ++ emptyO bs) := by
  obtain ⟨i0, hi0, hz0, hz1, hz2⟩ := info_parts info_u8
  have h1 : Bf w w v.ownBlock v bs := Bf.start ho
  obtain ⟨g, c, b, rfl, hlast, hcell⟩ := own_last ho hn
  have hidx : ((n + 1 : Nat) : Int) - 1 = (n : Int) := by omega
  unfold emptyO emptyO.emptyB'
  rw [hlast]
  have HN := Lib.hid hn
  clear ho hlast
  by_cases e1 : b = 40
  · subst e1
    go_enter Tryz.func115, Tryz.ntmps115
    go_wp2_with (at_builtin; refine wpList_bf_append_str rfl _ _ _ _ rfl Tryz.underlying30 Tryz.underlying9 hi0 hz0 hz1 hz2 rfl rfl (by assumption) (by show bs.length + 5 ≤ 140737488355328; omega) ?_; intro v1 W1 h1)
    go_ret
    refine ⟨_, rfl, ?_⟩
    exact h1
  · by_cases e2 : b = 44
    · subst e2
      go_enter Tryz.func115, Tryz.ntmps115
      go_wp2_with (at_builtin; refine wpList_bf_append_str rfl _ _ _ _ rfl Tryz.underlying30 Tryz.underlying9 hi0 hz0 hz1 hz2 rfl rfl (by assumption) (by show bs.length + 5 ≤ 140737488355328; omega) ?_; intro v1 W1 h1)
      go_ret
      refine ⟨_, rfl, ?_⟩
      exact h1
    · by_cases e3 : b = 32
      · subst e3
        go_enter Tryz.func115, Tryz.ntmps115
        go_wp2_with (at_builtin; refine wpList_bf_append_str rfl _ _ _ _ rfl Tryz.underlying30 Tryz.underlying9 hi0 hz0 hz1 hz2 rfl rfl (by assumption) (by show bs.length + 5 ≤ 140737488355328; omega) ?_; intro v1 W1 h1)
        go_ret
        refine ⟨_, rfl, ?_⟩
        exact h1
      · have f1 : (b == 40) = false := by rw [beq_eq_false_iff_ne]; exact e1
        have f2 : (b == 44) = false := by rw [beq_eq_false_iff_ne]; exact e2
        have f3 : (b == 32) = false := by rw [beq_eq_false_iff_ne]; exact e3
        rw [if_neg (by rintro (h | h | h) <;> injection h with h <;> contradiction)]
        clear e1 e2 e3
        go_enter Tryz.func115, Tryz.ntmps115
        go_wp2_with (first | (at_builtin; refine wpList_bf_append1g rfl _ _ _ rfl Tryz.underlying30 hi0 hz0 hz1 hz2 rfl rfl (by assumption) (by first | rfl | simp) (by omega) ?_; intro v1 W1 h1) | (at_builtin; refine wpList_bf_append_str rfl _ _ _ _ rfl Tryz.underlying30 Tryz.underlying9 hi0 hz0 hz1 hz2 rfl rfl (by assumption) (by rw [len_app]; show bs.length + 1 + 5 ≤ 140737488355328; omega) ?_; intro v1 W1 h1))
        go_ret
        refine ⟨_, rfl, ?_⟩
        have e : bs ++ [32, 69, 77, 80, 84, 89] = bs ++ [32] ++ strB { data := #[69, 77, 80, 84, 89] } := by rw [List.append_assoc]; rfl
        rw [e]
        exact h1

/-- The text of a place, in brackets if these are asked for. -/
def coordW (par : Bool) (hi lo : Nat → Int) (q : Int) (p : Pl) : List Int := if par = true then [40] ++ placeT hi lo q p ++ [41] else placeT hi lo q p

theorem coords_any (par : Bool) (q : Int) (q0 : 0 ≤ q) (q1 : q ≤ 3) (x y z m : Nat) (hi lo : Nat → Int) (w : World) (v : Value) (bs : List Int) (ho : Own w v bs) (ht : FtTabs w hi lo) (hx : x < 18446744073709551616) (hy : y < 18446744073709551616) (hz : z < 18446744073709551616) (hm : m < 18446744073709551616)
    (hrow : ∀ k, k < 7 → v.ownBlock ≠ some k) (hl : bs.length ≤ 70368744100000) :
    Calls Tryz.prog 129 #[v, .agg #[.float .f64 x, .float .f64 y, .float .f64 z, .float .f64 m, .int .u8 q], .bool par] w fun e w' =>
      ∃ v', e = .returned v' ∧ Bf w w' v.ownBlock v' (bs ++ coordW par hi lo q (x, y, z, m)) := by
  have h : q = 0 ∨ q = 1 ∨ q = 2 ∨ q = 3 := by omega
  cases par
  · rcases h with rfl | rfl | rfl | rfl
    · simpa [coordW, placeT, plNums, txts, joinS, List.append_assoc] using wktPlace_00 x y z m hi lo w v bs ho ht hx hy hz hm hrow hl
    · simpa [coordW, placeT, plNums, txts, joinS, List.append_assoc] using wktPlace_10 x y z m hi lo w v bs ho ht hx hy hz hm hrow hl
    · simpa [coordW, placeT, plNums, txts, joinS, List.append_assoc] using wktPlace_20 x y z m hi lo w v bs ho ht hx hy hz hm hrow hl
    · simpa [coordW, placeT, plNums, txts, joinS, List.append_assoc] using wktPlace_30 x y z m hi lo w v bs ho ht hx hy hz hm hrow hl
  · rcases h with rfl | rfl | rfl | rfl
    · simpa [coordW, placeT, plNums, txts, joinS, List.append_assoc] using wktPlace_01 x y z m hi lo w v bs ho ht hx hy hz hm hrow hl
    · simpa [coordW, placeT, plNums, txts, joinS, List.append_assoc] using wktPlace_11 x y z m hi lo w v bs ho ht hx hy hz hm hrow hl
    · simpa [coordW, placeT, plNums, txts, joinS, List.append_assoc] using wktPlace_21 x y z m hi lo w v bs ho ht hx hy hz hm hrow hl
    · simpa [coordW, placeT, plNums, txts, joinS, List.append_assoc] using wktPlace_31 x y z m hi lo w v bs ho ht hx hy hz hm hrow hl

end Go.Proofs.YtpbcfgehmalppaaGreatDoor
