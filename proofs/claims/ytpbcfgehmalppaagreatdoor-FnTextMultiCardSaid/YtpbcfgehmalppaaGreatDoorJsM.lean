/- An argument of type impl.Geom, read as data, is a tree. -/
import Derived.Test.YtpbcfgehmalppaaGreatDoorJsA
import Derived.OpenShut
import Derived.Deep.Fields
import Derived.ChangeArms
namespace Go.Proofs.YtpbcfgehmalppaaGreatDoor
open Go.RowKit Go.Deep

theorem list_of {α : Type} {P : Nat → α → Prop} : ∀ n, (∀ i, i < n → ∃ b, P i b) → ∃ l : List α, l.length = n ∧ ∀ i b, l[i]? = some b → P i b
  | 0, _ => ⟨[], rfl, fun i b h => by simp at h⟩
  | n + 1, h => by
    obtain ⟨l, hl, hp⟩ := list_of n fun i hi => h i (by omega)
    obtain ⟨b, hb⟩ := h n (by omega)
    refine ⟨l ++ [b], by simp [hl], fun i c hc => ?_⟩
    rcases Nat.lt_or_ge i n with hi | hi
    · rw [List.getElem?_append_left (by omega)] at hc
      exact hp i c hc
    · rw [List.getElem?_append_right (by omega)] at hc
      have e : i - l.length = 0 := by
        rcases Nat.eq_zero_or_pos (i - l.length) with e | e
        · exact e
        · rw [List.getElem?_eq_none (by simp; omega)] at hc; cases hc
      rw [e] at hc
      injection hc with hc
      have : i = n := by omega
      subst this; subst hc
      exact hb

theorem trod_fl {H : Type} {enc : TypeId × Value → H} {P : Program} {w : World} {base : Nat} {sp : Nat → Bool} {held : Bool} {fuel : Nat} {t : TypeId} {k : FloatKind} {c : Value} {y : DataW H × List MemPlace}
    (ht : P.underlying t = some (.float k)) (h : DataW.trod enc P w base sp held fuel t [c] = some y) : ∃ b, c = .float k b ∧ (Lit.float k b).wf = true := by
  cases fuel with
  | zero => simp [DataW.trod] at h
  | succ n =>
    simp only [DataW.trod, ht] at h
    cases c <;> simp at h
    rename_i k' b
    by_cases hk : k' = k
    · subst hk
      by_cases hw : (Lit.float k' b).wf = true
      · exact ⟨b, rfl, hw⟩
      · simp [hw] at h
    · simp [hk] at h

section
variable {H : Type} {enc : TypeId × Value → H} {w : World} {spare : Nat → Bool} {held : Bool}

theorem nums_of_trod {fuel : Nat} {v : Value} {y : DataW H × List MemPlace} (h : DataW.trod enc Tryz.prog w 0 spare held fuel 22 [v] = some y) :
    ∃ (A : Option Addr) (n c : Nat) (ns : List Nat), v = .slice A n c ∧ ns.length = n ∧ n ≤ c ∧ Reads w w.heap.size 1 A n (flV ns) ∧ ∀ b ∈ ns, b < 18446744073709551616 := by
  rcases DataW.trod_slice Tryz.underlying22 h with ⟨e, _⟩ | ⟨a, len, cap, elems, rest, n1, _, e, _, _, hl, _, hlen, hel, _⟩
  · injection e with e
    exact ⟨none, 0, 0, [], e, rfl, Nat.le_refl _, Reads.none_, by simp⟩
  · injection e with e
    have hc1 : Tryz.prog.cellsOf 45 = 1 := by kernel_rfl
    obtain ⟨ns, h1, h2⟩ := list_of (P := fun i b => w.cell? (a.add i) = some (.float .f64 b) ∧ (Lit.float .f64 b).wf = true) len fun i hi => by
      have he := hel i hi
      rw [hc1, Nat.mul_one, List.getElem?_eq_getElem (by omega)] at he
      obtain ⟨cs, k1, k2⟩ := Option.bind_eq_some_iff.1 he
      obtain ⟨_, hcl, hcc⟩ := World.cells?_some k1
      match cs, hcl with
      | [u], _ =>
        obtain ⟨b, rfl, hw⟩ := trod_fl Tryz.underlying45 k2
        have := hcc 0 (by omega)
        exact ⟨b, by simpa [Addr.add] using this, hw⟩
    refine ⟨some a, len, cap, ns, e, h1, hl, ⟨by rw [flV_length]; omega, fun h0 => ?_⟩, fun b hb => ?_⟩
    · refine ⟨a, rfl, ?_, fun j u hu => ?_⟩
      · have := World.block_lt_of_cell? w _ (h2 0 _ (List.getElem?_eq_getElem (by omega))).1
        rwa [block_of_add] at this
      · unfold flV at hu
        rw [List.getElem?_map] at hu
        obtain ⟨b, hb, rfl⟩ := Option.map_eq_some_iff.1 hu
        exact (h2 j b hb).1
    · obtain ⟨i, hi, rfl⟩ := List.mem_iff_getElem.1 hb
      have := (h2 i _ (List.getElem?_eq_getElem hi)).2
      simpa [Lit.wf] using this

set_option maxRecDepth 100000 in
/-- A datum of type impl.Geom is a tree. -/
theorem gm_of_trod : ∀ (fuel : Nat) (cs : List Value) (y : DataW H × List MemPlace), DataW.trod enc Tryz.prog w 0 spare held fuel 25 cs = some y →
    ∃ (k d : Int) (A K : Option Addr) (n m c c' : Nat) (t : Gm), cs = [.int .i64 k, .int .i64 d, .slice A n c, .slice K m c'] ∧ n ≤ c ∧ GmAt w w.heap.size (.agg #[.int .i64 k, .int .i64 d, .slice A n c, .slice K m c']) t := by
  intro fuel
  induction fuel using Nat.strongRecOn with
  | ind fuel ih =>
    intro cs y h
    have hC : Tryz.prog.cellsOf 25 = 4 := by kernel_rfl
    obtain ⟨xs, n, rfl, _, hlen, hxl, hg⟩ := DataW.trod_struct Tryz.underlying25 h
    rw [hC] at hlen
    match cs, hlen, xs, hxl with
    | [c0, c1, c2, c3], _, [y0, y1, y2, y3], _ =>
      have j0 : DataW.trod enc Tryz.prog w 0 spare held n 3 (List.take (Tryz.prog.cellsOf 3) [c0, c1, c2, c3]) = some y0 := hg 0 _ rfl
      have j1 : DataW.trod enc Tryz.prog w 0 spare held n 3 (List.take (Tryz.prog.cellsOf 3) [c1, c2, c3]) = some y1 := hg 1 _ rfl
      have j2 : DataW.trod enc Tryz.prog w 0 spare held n 22 (List.take (Tryz.prog.cellsOf 22) [c2, c3]) = some y2 := hg 2 _ rfl
      have j3 : DataW.trod enc Tryz.prog w 0 spare held n 23 (List.take (Tryz.prog.cellsOf 23) [c3]) = some y3 := hg 3 _ rfl
      have i1 : Tryz.prog.cellsOf 3 = 1 := by kernel_rfl
      have i2 : Tryz.prog.cellsOf 22 = 1 := by kernel_rfl
      have i3 : Tryz.prog.cellsOf 23 = 1 := by kernel_rfl
      rw [i1] at j0 j1
      rw [i2] at j2
      rw [i3] at j3
      simp only [List.take_succ_cons, List.take_zero] at j0 j1 j2 j3
      obtain ⟨k, hk, _, _⟩ := DataW.trod_int Tryz.underlying3 j0
      obtain rfl : c0 = .int .i64 k := by simpa using hk
      obtain ⟨d, hd, _, _⟩ := DataW.trod_int Tryz.underlying3 j1
      obtain rfl : c1 = .int .i64 d := by simpa using hd
      obtain ⟨A, nn, c, ns, rfl, en, hnc, hR, hb⟩ := nums_of_trod j2
      rcases DataW.trod_slice Tryz.underlying23 j3 with ⟨e, _⟩ | ⟨a, len, cap, elems, rest, n1, hf, e, _, _, hl, _, hel0, hel, _⟩
      · injection e with e
        subst e
        exact ⟨k, d, A, none, nn, 0, c, 0, .mk k d ns [], rfl, hnc, .mk (us := fun _ _ => .bool false) en rfl hR hb hnc (fun i hi => absurd hi (by omega)) (fun i t ht => by simp at ht)⟩
      · injection e with e
        subst e
        obtain ⟨l, hll, hlp⟩ := list_of (P := fun i (p : Gm × Value × Value × Value × Value) => (w.cell? (a.add (i * 4 + 0)) = some p.2.1 ∧ w.cell? (a.add (i * 4 + 1)) = some p.2.2.1 ∧ w.cell? (a.add (i * 4 + 2)) = some p.2.2.2.1 ∧ w.cell? (a.add (i * 4 + 3)) = some p.2.2.2.2) ∧ GmAt w w.heap.size (.agg #[p.2.1, p.2.2.1, p.2.2.2.1, p.2.2.2.2]) p.1) len fun i hi => by
          have he := hel i hi
          rw [hC, List.getElem?_eq_getElem (by omega)] at he
          obtain ⟨cs', k1, k2⟩ := Option.bind_eq_some_iff.1 he
          obtain ⟨k', d', A', K', n', m', c1', c2', t, rfl, _, hG⟩ := ih n1 (by omega) cs' _ k2
          obtain ⟨_, _, hcc⟩ := World.cells?_some k1
          have q := fun j (hj : j < 4) => (add_of_add a (i * 4) j) ▸ hcc j hj
          exact ⟨(t, _, _, _, _), ⟨q 0 (by omega), q 1 (by omega), q 2 (by omega), q 3 (by omega)⟩, hG⟩
        have hgt : ∀ i, i < len → ∃ p, l[i]? = some p := fun i hi => ⟨_, List.getElem?_eq_getElem (by omega)⟩
        refine ⟨k, d, A, some a, nn, len, c, cap, .mk k d ns (l.map (·.1)), rfl, hnc, .mk (us := fun i j => match l[i]? with
          | some p => (match j with | 0 => p.2.1 | 1 => p.2.2.1 | 2 => p.2.2.2.1 | _ => p.2.2.2.2)
          | none => .bool false) en (by simp [hll]) hR hb hnc (fun i hi => ?_) (fun i t ht => ?_)⟩
        · obtain ⟨p, hp⟩ := hgt i hi
          obtain ⟨⟨q0, q1, q2, q3⟩, _⟩ := hlp i p hp
          refine ⟨a, rfl, ?_, fun j hj => ?_⟩
          · have := World.block_lt_of_cell? w _ q0
            rwa [block_of_add] at this
          · rw [hp]
            match j, hj with
            | 0, _ => exact q0
            | 1, _ => exact q1
            | 2, _ => exact q2
            | 3, _ => exact q3
        · rw [List.getElem?_map] at ht
          obtain ⟨p, hp, rfl⟩ := Option.map_eq_some_iff.1 ht
          rw [hp]
          exact (hlp i p hp).2
end

end Go.Proofs.YtpbcfgehmalppaaGreatDoor
