/- An argument of type impl.Geom, read as data, is a tree in the words of the printed contracts, and of those by hand. -/
import Derived.Test.YtpbcfgehmalppaaGreatDoorKPS
import Derived.Test.YtpbcfgehmalppaaGreatDoorKJ
import Derived.OpenShut
import Derived.Deep.Fields
import Derived.ChangeArms
namespace Go.Proofs.YtpbcfgehmalppaaGreatDoorW.QPt
open Go.RowKit Go.Deep Go.Proofs.YtpbcfgehmalppaaGreatDoorW.PrintWords Go.Proofs.YtpbcfgehmalppaaGreatDoor

mutual
/-- All numbers are 64 bits. -/
def bitsT : S25 → Prop
  | ⟨_, _, ns, ks⟩ => (∀ b ∈ ns, b < 18446744073709551616) ∧ bitsTs ks
def bitsTs : List S25 → Prop
  | [] => True
  | t :: ts => bitsT t ∧ bitsTs ts
end
theorem bitsTs_iff : ∀ ts, bitsTs ts ↔ ∀ t ∈ ts, bitsT t
  | [] => by simp [bitsTs]
  | t :: ts => by simp [bitsTs, bitsTs_iff ts]
theorem bitsT_def (t : S25) : bitsT t ↔ (∀ b ∈ t.f2, b < 18446744073709551616) ∧ ∀ u ∈ t.f3, bitsT u := by
  cases t
  simp [bitsT, bitsTs_iff]

mutual
/-- The tree in the words of the contracts by hand. -/
def toG : S25 → Gm
  | ⟨k, d, ns, ks⟩ => .mk k d ns (toGs ks)
def toGs : List S25 → List Gm
  | [] => []
  | t :: ts => toG t :: toGs ts
end
theorem toGs_map : ∀ ts, toGs ts = ts.map toG
  | [] => rfl
  | t :: ts => by simp [toGs, toGs_map ts]
mutual
theorem toG_sz : ∀ t : S25, (toG t).sz = t.sz
  | ⟨_, _, ns, ks⟩ => by simp only [toG, Gm.sz, S25.sz, toGs_sz ks]
theorem toGs_sz : ∀ ts : List S25, Gm.szs (toGs ts) = szs ts
  | [] => rfl
  | t :: ts => by simp only [toGs, Gm.szs, szs, toG_sz t, toGs_sz ts]
end

theorem reads_of_kd {w : World} {A : Option Addr} {n : Nat} {ns : List Nat} (h : Kd.C Kd.float w A n ns) : Reads w w.heap.size 1 A n (flV ns) := by
  have hl : ns.length = n := h.1
  refine ⟨by rw [flV_length]; omega, fun h0 => ?_⟩
  obtain ⟨ad, e, hb, hc⟩ := fl_cells h h0
  refine ⟨ad, e, hb, fun j u hu => ?_⟩
  unfold flV at hu
  rw [List.getElem?_map] at hu
  obtain ⟨b, hb', rfl⟩ := Option.map_eq_some_iff.1 hu
  obtain ⟨hj, rfl⟩ := List.getElem?_eq_some_iff.1 hb'
  rw [hc j hj, List.getD_eq_getElem?_getD, List.getElem?_eq_getElem hj]
  rfl

theorem gm_of_kd : ∀ (N : Nat) (t : S25), t.sz ≤ N → ∀ (w : World) (cs : List Value), k25.K w t cs → bitsT t → GmAt w w.heap.size (.agg cs.toArray) (toG t)
  | 0, t, ht, _, _, _, _ => by have := sz_pos t; omega
  | N + 1, ⟨k, d, ns, ks⟩, ht, w, cs, h, hb => by
    have hs := sz_def ⟨k, d, ns, ks⟩
    simp only at hs
    rw [hs] at ht
    obtain ⟨hb1, hb2⟩ := (bitsT_def _).1 hb
    simp only at hb1 hb2
    obtain ⟨A2, c2, A3, c3, rfl, l2, g2, l3, g3⟩ := k25_open h
    simp only at g2 l2 g3 l3
    have hrow : ∀ i (hi : i < ks.length), ∃ ad c, A3 = some ad ∧ c.length = 4 ∧ k25.K w ks[i] c ∧ ∀ j u, c[j]? = some u → w.cell? (ad.add (i * 4 + j)) = some u := fun i hi => by
      obtain ⟨ad, e, hc⟩ := g3.2.2 (by omega)
      obtain ⟨c, hc1, hc2, hc3⟩ := hc i _ (List.getElem?_eq_getElem hi)
      exact ⟨ad, c, e, hc1, hc2, hc3⟩
    refine GmAt.mk (us := fun i j => match A3 with
      | some ad => (w.cell? (ad.add (i * 4 + j))).getD (.bool false)
      | none => .bool false) rfl (by rw [toGs_map, List.length_map]) (reads_of_kd g2) hb1 (fun i hi => ?_) (fun i t ht' => ?_)
    · obtain ⟨ad, c, rfl, hc1, hc2, hc3⟩ := hrow i hi
      have hcell : ∀ j, j < 4 → ∃ u, w.cell? (ad.add (i * 4 + j)) = some u := fun j hj => ⟨_, hc3 j _ (List.getElem?_eq_getElem (by omega))⟩
      refine ⟨ad, rfl, ?_, fun j hj => ?_⟩
      · obtain ⟨u, hu⟩ := hcell 0 (by omega)
        have := World.block_lt_of_cell? w _ hu
        rwa [block_of_add] at this
      · obtain ⟨u, hu⟩ := hcell j hj
        simp only [hu, Option.getD_some]
    · rw [toGs_map, List.getElem?_map] at ht'
      obtain ⟨u, hu, rfl⟩ := Option.map_eq_some_iff.1 ht'
      obtain ⟨hi, rfl⟩ := List.getElem?_eq_some_iff.1 hu
      obtain ⟨ad, c, rfl, hc1, hc2, hc3⟩ := hrow i hi
      have hsz := sz_mem hu
      have hrec := gm_of_kd N ks[i] (by omega) w c hc2 (hb2 _ (List.getElem_mem hi))
      match c, hc1 with
      | [a0, a1, a2, a3], _ =>
        have q0 := hc3 0 _ rfl
        have q1 := hc3 1 _ rfl
        have q2 := hc3 2 _ rfl
        have q3 := hc3 3 _ rfl
        simp only [q0, q1, q2, q3, Option.getD_some]
        exact hrec

theorem list_of {α : Type} {P : Nat → α → Prop} : ∀ n, (∀ i, i < n → ∃ b, P i b) → ∃ l : List α, l.length = n ∧ ∀ i b, l[i]? = some b → P i b
  | 0, _ => ⟨[], rfl, fun i b h => by simp at h⟩
  | n + 1, h => by
    obtain ⟨l, hl, hp⟩ := list_of n fun i hi => h i (by omega)
    obtain ⟨b, hb⟩ := h n (by omega)
    refine ⟨l ++ [b], by simp [hl], fun i c hc => ?_⟩
    rcases Nat.lt_or_ge i n with hi | hi
    · rw [List.getElem?_append_left (by omega)] at hc
      exact hp i c hc
    · rw [List.getElem?_append_right (by omega)] at hc
      have e : i - l.length = 0 := by
        rcases Nat.eq_zero_or_pos (i - l.length) with e | e
        · exact e
        · rw [List.getElem?_eq_none (by simp; omega)] at hc; cases hc
      rw [e] at hc
      injection hc with hc
      have : i = n := by omega
      subst this; subst hc
      exact hb

theorem trod_fl {H : Type} {enc : TypeId × Value → H} {P : Program} {w : World} {base : Nat} {sp : Nat → Bool} {held : Bool} {fuel : Nat} {t : TypeId} {k : FloatKind} {c : Value} {y : DataW H × List MemPlace}
    (ht : P.underlying t = some (.float k)) (h : DataW.trod enc P w base sp held fuel t [c] = some y) : ∃ b, c = .float k b ∧ (Lit.float k b).wf = true := by
  cases fuel with
  | zero => simp [DataW.trod] at h
  | succ n =>
    simp only [DataW.trod, ht] at h
    cases c <;> simp at h
    rename_i k' b
    by_cases hk : k' = k
    · subst hk
      by_cases hw : (Lit.float k' b).wf = true
      · exact ⟨b, rfl, hw⟩
      · simp [hw] at h
    · simp [hk] at h

section
variable {H : Type} {enc : TypeId × Value → H} {w : World} {spare : Nat → Bool} {held : Bool}

theorem nums_of_trod {fuel : Nat} {v : Value} {y : DataW H × List MemPlace} (h : DataW.trod enc Tryz.prog w 0 spare held fuel 22 [v] = some y) :
    ∃ (A : Option Addr) (c : Nat) (ns : List Nat), v = .slice A ns.length c ∧ ns.length ≤ c ∧ Kd.C Kd.float w A ns.length ns ∧ ∀ b ∈ ns, b < 18446744073709551616 := by
  rcases DataW.trod_slice Tryz.underlying22 h with ⟨e, _⟩ | ⟨a, len, cap, elems, rest, n1, _, e, _, _, hl, hmx, hlen, hel, _⟩
  · injection e with e
    exact ⟨none, 0, [], e, Nat.le_refl _, ⟨rfl, by simp, by simp⟩, by simp⟩
  · injection e with e
    have hc1 : Tryz.prog.cellsOf 45 = 1 := by kernel_rfl
    obtain ⟨ns, h1, h2⟩ := list_of (P := fun i b => w.cell? (a.add i) = some (.float .f64 b) ∧ (Lit.float .f64 b).wf = true) len fun i hi => by
      have he := hel i hi
      rw [hc1, Nat.mul_one, List.getElem?_eq_getElem (by omega)] at he
      obtain ⟨cs, k1, k2⟩ := Option.bind_eq_some_iff.1 he
      obtain ⟨_, hcl, hcc⟩ := World.cells?_some k1
      match cs, hcl with
      | [u], _ =>
        obtain ⟨b, rfl, hw⟩ := trod_fl Tryz.underlying45 k2
        have := hcc 0 (by omega)
        exact ⟨b, by simpa [Addr.add] using this, hw⟩
    subst h1
    refine ⟨some a, cap, ns, e, hl, ⟨rfl, by simp only [maxLen] at hmx; omega, fun _ => ⟨a, rfl, fun j p hp => ⟨[.float .f64 p], rfl, rfl, fun i u hu => ?_⟩⟩⟩, fun b hb => ?_⟩
    · have hi : i = 0 := by
        have := (List.getElem?_eq_some_iff.1 hu).1
        simp at this
        exact this
      subst hi
      have hu' : Value.float .f64 p = u := by simpa using hu
      subst hu'
      have := (h2 j p hp).1
      show w.cell? (a.add (j * 1 + 0)) = _
      rw [Nat.mul_one, Nat.add_zero]
      exact this
    · obtain ⟨i, hi, rfl⟩ := List.mem_iff_getElem.1 hb
      have := (h2 i _ (List.getElem?_eq_getElem hi)).2
      simpa [Lit.wf] using this

set_option maxRecDepth 100000 in
/-- A datum of type impl.Geom is a tree. -/
theorem kd_of_trod : ∀ (fuel : Nat) (cs : List Value) (y : DataW H × List MemPlace), DataW.trod enc Tryz.prog w 0 spare held fuel 25 cs = some y →
    ∃ t : S25, k25.K w t cs ∧ bitsT t := by
  intro fuel
  induction fuel using Nat.strongRecOn with
  | ind fuel ih =>
    intro cs y h
    have hC : Tryz.prog.cellsOf 25 = 4 := by kernel_rfl
    obtain ⟨xs, n, rfl, _, hlen, hxl, hg⟩ := DataW.trod_struct Tryz.underlying25 h
    rw [hC] at hlen
    match cs, hlen, xs, hxl with
    | [c0, c1, c2, c3], _, [y0, y1, y2, y3], _ =>
      have j0 : DataW.trod enc Tryz.prog w 0 spare held n 3 (List.take (Tryz.prog.cellsOf 3) [c0, c1, c2, c3]) = some y0 := hg 0 _ rfl
      have j1 : DataW.trod enc Tryz.prog w 0 spare held n 3 (List.take (Tryz.prog.cellsOf 3) [c1, c2, c3]) = some y1 := hg 1 _ rfl
      have j2 : DataW.trod enc Tryz.prog w 0 spare held n 22 (List.take (Tryz.prog.cellsOf 22) [c2, c3]) = some y2 := hg 2 _ rfl
      have j3 : DataW.trod enc Tryz.prog w 0 spare held n 23 (List.take (Tryz.prog.cellsOf 23) [c3]) = some y3 := hg 3 _ rfl
      have i1 : Tryz.prog.cellsOf 3 = 1 := by kernel_rfl
      have i2 : Tryz.prog.cellsOf 22 = 1 := by kernel_rfl
      have i3 : Tryz.prog.cellsOf 23 = 1 := by kernel_rfl
      rw [i1] at j0 j1
      rw [i2] at j2
      rw [i3] at j3
      simp only [List.take_succ_cons, List.take_zero] at j0 j1 j2 j3
      obtain ⟨k, hk, _, _⟩ := DataW.trod_int Tryz.underlying3 j0
      obtain rfl : c0 = .int .i64 k := by simpa using hk
      obtain ⟨d, hd, _, _⟩ := DataW.trod_int Tryz.underlying3 j1
      obtain rfl : c1 = .int .i64 d := by simpa using hd
      obtain ⟨A, c, ns, rfl, hnc, hR, hb⟩ := nums_of_trod j2
      rcases DataW.trod_slice Tryz.underlying23 j3 with ⟨e, _⟩ | ⟨a, len, cap, elems, rest, n1, hf, e, _, _, hl, hmx, hel0, hel, _⟩
      · injection e with e
        subst e
        refine ⟨⟨k, d, ns, []⟩, k25_mk w ⟨k, d, ns, []⟩ hnc hR (A3 := none) (c3 := 0) (Nat.le_refl _) ⟨rfl, by simp, by simp⟩, ?_⟩
        rw [bitsT_def]
        exact ⟨hb, by simp⟩
      · injection e with e
        subst e
        obtain ⟨l, hll, hlp⟩ := list_of (P := fun i (p : S25) => (∃ c, c.length = 4 ∧ k25.K w p c ∧ ∀ j u, c[j]? = some u → w.cell? (a.add (i * 4 + j)) = some u) ∧ bitsT p) len fun i hi => by
          have he := hel i hi
          rw [hC, List.getElem?_eq_getElem (by omega)] at he
          obtain ⟨cs', k1, k2⟩ := Option.bind_eq_some_iff.1 he
          obtain ⟨t, hK, hB⟩ := ih n1 (by omega) cs' _ k2
          obtain ⟨_, hcl, hcc⟩ := World.cells?_some k1
          refine ⟨t, ⟨cs', hcl, hK, fun j u hu => ?_⟩, hB⟩
          obtain ⟨hj, rfl⟩ := List.getElem?_eq_some_iff.1 hu
          have := (add_of_add a (i * 4) j) ▸ hcc j (by omega)
          rw [this, List.getElem?_eq_getElem hj]
        subst hll
        refine ⟨⟨k, d, ns, l⟩, k25_mk w ⟨k, d, ns, l⟩ hnc hR hl ⟨rfl, by simp only [maxLen] at hmx; show l.length ≤ _; omega, fun _ => ⟨a, rfl, fun j p hp => (hlp j p hp).1⟩⟩, ?_⟩
        rw [bitsT_def]
        refine ⟨hb, fun u hu => ?_⟩
        obtain ⟨i, hi, rfl⟩ := List.mem_iff_getElem.1 hu
        exact (hlp i _ (List.getElem?_eq_getElem hi)).2
end

end Go.Proofs.YtpbcfgehmalppaaGreatDoorW.QPt
