/- Sequences of places and their change of type. -/
import Derived.Test.YtpbcfgehmalppaaGreatDoorPgA
namespace Go.Proofs.YtpbcfgehmalppaaGreatDoor
open Go.RowKit

attribute [local go_sem] run_store_float

/-- The cells cs read as a sequence of type q with the numbers ns, in a block of just these that answers ok. -/
def LsOn (w : World) (ok : Nat → Prop) (cs : List Value) (s : Int × List Nat) : Prop :=
  ∃ (A : Option Addr) (n c : Nat), cs = [.int .u8 s.1, .slice A n c] ∧ 0 ≤ s.1 ∧ s.1 ≤ 3 ∧ s.2.length = n ∧ n % wd s.1 = 0 ∧ (∀ b ∈ s.2, b < 18446744073709551616) ∧ (0 < n → ∃ g, A = some ⟨g, 0, none⟩ ∧ ok g ∧ Blk w g 45 (flV s.2).toArray)
theorem LsOn.keeps : Keeps LsOn := by
  rintro w w' ok ok' cs ⟨q, ns⟩ ⟨A, n, c, rfl, h0, h1, h2, h3, h4, h5⟩ hk ho
  refine ⟨A, n, c, rfl, h0, h1, h2, h3, h4, fun hp => ?_⟩
  obtain ⟨g, e, hg, hb⟩ := h5 hp
  exact ⟨g, e, ho g hg hb.lt, (hk g hg hb.lt).trans hb⟩

theorem wd_pos' (q : Int) : 2 ≤ wd q := by unfold wd; omega

/-- The numbers under another type. -/
def forceS (Q q : Int) (ns : List Nat) : List Nat := plsNums Q (ptsN q ns (ns.length / wd q))

theorem getD_take (ns : List Nat) (k j : Nat) (h : j < k) : (ns.take k).getD j 0 = ns.getD j 0 := by
  rw [List.getD_eq_getElem?_getD, List.getD_eq_getElem?_getD, List.getElem?_take, if_pos h]
theorem plNums_ptN (q : Int) (q0 : 0 ≤ q) (q1 : q ≤ 3) (ns : List Nat) (i : Nat) (hi : (i + 1) * wd q ≤ ns.length) : ns.take ((i + 1) * wd q) = ns.take (i * wd q) ++ plNums q (ptN q ns i) := by
  have h : ∀ j, j < ns.length → ns.take (j + 1) = ns.take j ++ [ns.getD j 0] := fun j hj => by
    rw [take_snoc' ns j hj, List.getD_eq_getElem?_getD, List.getElem?_eq_getElem hj]
    rfl
  rw [Nat.succ_mul] at hi ⊢
  rcases wd_cases q q0 q1 with ⟨rfl, e⟩ | ⟨rfl, e⟩ | ⟨rfl, e⟩ | ⟨rfl, e⟩ <;> rw [e] at hi ⊢ <;> unfold ptN plNums <;> rw [e]
  · rw [show i * 2 + 2 = i * 2 + 1 + 1 by omega, h _ (by omega), h _ (by omega)]
    simp
  · rw [show i * 3 + 3 = i * 3 + 1 + 1 + 1 by omega, h _ (by omega), h _ (by omega), h _ (by omega)]
    simp
  · rw [show i * 3 + 3 = i * 3 + 1 + 1 + 1 by omega, h _ (by omega), h _ (by omega), h _ (by omega)]
    simp
  · rw [show i * 4 + 4 = i * 4 + 1 + 1 + 1 + 1 by omega, h _ (by omega), h _ (by omega), h _ (by omega), h _ (by omega)]
    simp
theorem plsNums_take (q : Int) (q0 : 0 ≤ q) (q1 : q ≤ 3) (ns : List Nat) : ∀ r, r * wd q ≤ ns.length → plsNums q (ptsN q ns r) = ns.take (r * wd q)
  | 0, _ => by simp [ptsN, plsNums]
  | r + 1, h => by
    rw [ptsN_succ, plsNums_snoc, plsNums_take q q0 q1 ns r (by rw [Nat.succ_mul] at h; omega), plNums_ptN q q0 q1 ns r h]
theorem forceS_same (q : Int) (q0 : 0 ≤ q) (q1 : q ≤ 3) (ns : List Nat) (h : ns.length % wd q = 0) : forceS q q ns = ns := by
  have e := Nat.div_add_mod ns.length (wd q)
  rw [h, Nat.add_zero, Nat.mul_comm] at e
  unfold forceS
  rw [plsNums_take q q0 q1 ns _ (by omega), e, List.take_length]

theorem set_step {cs : Array Value} {L : List Value} {k : Nat} (hL : L.length = k) (h : ∀ j, j < k → cs[j]? = L[j]?) (hk : k < cs.size) (a : Value) : (L ++ [a]).length = k + 1 ∧ (cs.setIfInBounds k a).size = cs.size ∧ ∀ j, j < k + 1 → (cs.setIfInBounds k a)[j]? = (L ++ [a])[j]? := by
  refine ⟨by rw [List.length_append, hL]; rfl, by simp, fun j hj => ?_⟩
  by_cases e : j = k
  · subst e
    rw [List.getElem?_append_right (by omega), hL, Nat.sub_self, Array.getElem?_setIfInBounds_self_of_lt hk]
    rfl
  · rw [List.getElem?_append_left (by omega), Array.getElem?_setIfInBounds_ne (fun h => e h.symm)]
    exact h j (by omega)

theorem plNums_wd' (dim : Int) (d0 : 0 ≤ dim) (d1 : dim ≤ 3) (p : Pl) : (plNums dim p).length = wd dim := by
  have h : dim = 0 ∨ dim = 1 ∨ dim = 2 ∨ dim = 3 := by omega
  rcases h with rfl | rfl | rfl | rfl <;> rfl
theorem plsNums_wd' (dim : Int) (d0 : 0 ≤ dim) (d1 : dim ≤ 3) (ps : List Pl) : (plsNums dim ps).length = ps.length * wd dim := by
  induction ps with
  | nil => simp [plsNums]
  | cons p ps ih =>
    have e : plsNums dim (p :: ps) = plNums dim p ++ plsNums dim ps := by simp [plsNums]
    rw [e, List.length_append, ih, plNums_wd' dim d0 d1, List.length_cons, Nat.succ_mul]
    omega

theorem ptN_lt' (q : Int) (ns : List Nat) (i : Nat) (h : ∀ b ∈ ns, b < 18446744073709551616) : (ptN q ns i).1 < 18446744073709551616 ∧ (ptN q ns i).2.1 < 18446744073709551616 ∧ (ptN q ns i).2.2.1 < 18446744073709551616 ∧ (ptN q ns i).2.2.2 < 18446744073709551616 := by
  have k : ∀ j, ns.getD j 0 < 18446744073709551616 := fun j => by
    rw [List.getD_eq_getElem?_getD]
    rcases Nat.lt_or_ge j ns.length with hj | hj
    · rw [List.getElem?_eq_getElem hj]; exact h _ (List.getElem_mem hj)
    · rw [List.getElem?_eq_none hj]; decide
  unfold ptN
  refine ⟨k _, k _, ?_, ?_⟩
  · show (if _ then _ else _) < _
    split
    · exact k _
    · decide
  · show (if _ then _ else _) < _
    split
    · exact k _
    · decide
theorem plsNums_lt' (dim q : Int) (ns : List Nat) (r : Nat) (h : ∀ b ∈ ns, b < 18446744073709551616) : ∀ b ∈ plsNums dim (ptsN q ns r), b < 18446744073709551616 := by
  intro b hb
  unfold plsNums ptsN at hb
  obtain ⟨p, hp, hb⟩ := List.mem_flatMap.1 hb
  obtain ⟨i, _, rfl⟩ := List.mem_map.1 hp
  obtain ⟨h1, h2, h3, h4⟩ := ptN_lt' q ns i h
  unfold plNums at hb
  simp only [List.mem_append, List.mem_cons, List.not_mem_nil, or_false] at hb
  rcases hb with (rfl | rfl) | hb | hb
  · exact h1
  · exact h2
  · split at hb <;> simp at hb; subst hb; exact h3
  · split at hb <;> simp at hb; subst hb; exact h4

end Go.Proofs.YtpbcfgehmalppaaGreatDoor
