import Derived.Test.YtofdccmmagcamaaGreatDoorMhA
import Derived.OpenShut
import Derived.Deep.Fields
import Derived.ChangeArms
/- A geometry as plain data: how it lies in memory, and the size and the finiteness of it (each ends, and turns nothing that was there). -/
set_option maxHeartbeats 8000000
set_option linter.unusedSimpArgs false
set_option linter.unusedVariables false
namespace Go.Proofs.YtofdccmmagcamaaGreatDoor
open Go.RowKit

/-- A geometry as plain data: kind, type, numbers as bits, kids. -/
inductive Gm where
  | mk (k d : Int) (ns : List Nat) (ks : List Gm)

mutual
/-- Parts and numbers. -/
def Gm.sz : Gm → Nat
  | .mk _ _ ns ks => 1 + ns.length + Gm.szs ks
def Gm.szs : List Gm → Nat
  | [] => 0
  | t :: ts => Gm.sz t + Gm.szs ts
end

theorem szs_snoc (l : List Gm) (t : Gm) : Gm.szs (l ++ [t]) = Gm.szs l + t.sz := by
  induction l with
  | nil => simp [Gm.szs]
  | cons a l ih => simp only [List.cons_append, Gm.szs, ih]; omega

/-- The value v reads as the geometry t in world w, below block B. -/
inductive GmAt (w : World) (B : Nat) : Value → Gm → Prop
  | mk {k d : Int} {ns : List Nat} {ks : List Gm} {n m : Nat} {A K : Option Addr} {c c' : Nat} {us : Nat → Nat → Value} (en : ns.length = n) (em : ks.length = m)
      (hn : Reads w B 1 A n (flV ns)) (hb : ∀ b ∈ ns, b < 18446744073709551616) (hcap : n ≤ c)
      (hk : ∀ i, i < m → ∃ ad, K = some ad ∧ ad.block < B ∧ ∀ j, j < 4 → w.cell? (ad.add (i * 4 + j)) = some (us i j))
      (hs : ∀ i t, ks[i]? = some t → GmAt w B (.agg #[us i 0, us i 1, us i 2, us i 3]) t) :
      GmAt w B (.agg #[.int .i64 k, .int .i64 d, .slice A n c, .slice K m c']) (.mk k d ns ks)

theorem GmAt.keepB {w w' : World} {B : Nat} {v : Value} {t : Gm} (h : GmAt w B v t) (hb : Below B w w') : GmAt w' B v t := by
  induction h with
  | mk en em hn hb' hcap hk hs ih =>
    refine .mk en em (hn.below hb) hb' hcap (fun i hi => ?_) ih
    obtain ⟨ad, e, hl, hc⟩ := hk i hi
    exact ⟨ad, e, hl, fun j hj => (hb.cell (by rw [block_of_add]; exact hl)).trans (hc j hj)⟩
theorem cells4 {w : World} {ad : Addr} {q : Nat} {f : Nat → Value} (h : ∀ j, j < 4 → w.cell? (ad.add (q * 4 + j)) = some (f j)) :
    w.cell? (ad.add (q * 4)) = some (f 0) ∧ w.cell? ⟨(ad.add (q * 4)).block, (ad.add (q * 4)).off + 1, none⟩ = some (f 1) ∧ w.cell? ⟨(ad.add (q * 4)).block, (ad.add (q * 4)).off + 2, none⟩ = some (f 2) ∧ w.cell? ⟨(ad.add (q * 4)).block, (ad.add (q * 4)).off + 3, none⟩ = some (f 3) := by
  have k : ∀ j, 0 < j → ad.add (q * 4 + j) = ⟨(ad.add (q * 4)).block, (ad.add (q * 4)).off + j, none⟩ := fun j hj => by
    rw [← add_of_add]
    generalize ad.add (q * 4) = p
    unfold Addr.add
    rw [if_neg (by omega)]
  refine ⟨h 0 (by omega), ?_, ?_, ?_⟩
  · rw [← k 1 (by omega)]; exact h 1 (by omega)
  · rw [← k 2 (by omega)]; exact h 2 (by omega)
  · rw [← k 3 (by omega)]; exact h 3 (by omega)

theorem sz_pos (t : Gm) : 1 ≤ t.sz := by cases t; unfold Gm.sz; omega
theorem szs_len : ∀ ks : List Gm, ks.length ≤ Gm.szs ks
  | [] => by simp
  | t :: ts => by
    have := szs_len ts
    have := sz_pos t
    simp only [List.length_cons, Gm.szs]
    omega
theorem sz_kid : ∀ {ks : List Gm} {q : Nat} {t : Gm}, ks[q]? = some t → t.sz ≤ Gm.szs ks
  | [], _, _, h => by simp at h
  | a :: ts, 0, t, h => by
    simp at h
    subst h
    simp only [Gm.szs]
    omega
  | a :: ts, q + 1, t, h => by
    have := sz_kid (ks := ts) (q := q) (t := t) (by simpa using h)
    simp only [Gm.szs]
    omega

theorem szs_take {ks : List Gm} {q : Nat} {t : Gm} (h : ks[q]? = some t) : Gm.szs (ks.take (q + 1)) = Gm.szs (ks.take q) + t.sz := by
  rw [List.take_add_one, h, Option.toList_some, szs_snoc]

theorem GmAt.shape {w : World} {B : Nat} {a0 a1 a2 a3 : Value} {t : Gm} (h : GmAt w B (.agg #[a0, a1, a2, a3]) t) :
    ∃ (k d : Int) (A K : Option Addr) (n m c c' : Nat), a0 = .int .i64 k ∧ a1 = .int .i64 d ∧ a2 = .slice A n c ∧ a3 = .slice K m c' := by
  generalize hv : Value.agg #[a0, a1, a2, a3] = v at h
  cases h with
  | @mk k d ns ks n m A K c c' us =>
    injection hv with hv
    simp at hv
    obtain ⟨h0, h1, h2, h3⟩ := hv
    exact ⟨k, d, A, K, n, m, c, c', h0, h1, h2, h3⟩

set_option maxRecDepth 100000 in
theorem gWeight_any {w : World} {B : Nat} {v : Value} {t : Gm} (h : GmAt w B v t) : ∀ (left : Int) (W : World), Below B w W → B ≤ W.heap.size → -1 ≤ left → left ≤ 1000000000 →
    Calls Tryz.prog 36 #[v, .int .i64 left] W fun e W' => ∃ r : Int, e = .returned (.int .i64 r) ∧ (-1 ≤ r ∧ r ≤ 1000000000 ∧ (0 ≤ r → r + t.sz ≤ left)) ∧ Below W.heap.size W W' := by
  induction h with
  | @mk k d ns ks n m A K c c' us en em hn hb hcap hk hs ih =>
    intro left W hbl hB hl0 hl1
    have HK := Hd hk
    have HI := Hd ih
    have HBL := Hd hbl
    have HNN := Hd en
    have HMM := Hd em
    clear hn hb hk hs ih hbl en em
    by_cases h1 : left < 1
    · go_enter Tryz.func36, Tryz.ntmps36
      go_wp2
      go_ret
      exact ⟨-1, rfl, ⟨by omega, by omega, by omega⟩, (Below.refl _ _).alloc (Nat.le_refl _) _⟩
    · by_cases h2 : left < n
      · go_enter Tryz.func36, Tryz.ntmps36
        go_wp2
        go_ret
        exact ⟨-1, rfl, ⟨by omega, by omega, by omega⟩, (Below.refl _ _).alloc (Nat.le_refl _) _⟩
      · by_cases h3 : left < m
        · go_enter Tryz.func36, Tryz.ntmps36
          go_wp2
          go_ret
          exact ⟨-1, rfl, ⟨by omega, by omega, by omega⟩, (Below.refl _ _).alloc (Nat.le_refl _) _⟩
        · have hbox := Blk.new W 25 #[.int .i64 k, .int .i64 d, .slice A n c, .slice K m c']
          have HBX := Hd hbox
          clear hbox
          go_enter Tryz.func36, Tryz.ntmps36
          go_wp2
          go_loopw [1, 5] (fun l i wr => ∃ (lf : Int) (q : Nat), q ≤ m ∧ l = .int .i64 lf ∧ i = .int .i64 q ∧ (-1 ≤ lf ∧ lf ≤ 1000000000 ∧ (0 ≤ lf → lf + (1 + n + Gm.szs (ks.take q)) ≤ left)) ∧ Below (W.heap.size + 1) (W.alloc (.cells #[.int .i64 k, .int .i64 d, .slice A n c, .slice K m c'] 25)) wr) (fun _ i _ => m - (intOf i).toNat)
          case atStart => exact ⟨left - 1 - n, 0, Nat.zero_le _, by go_num, rfl, ⟨by omega, by omega, fun _ => by simp [Gm.szs]; omega⟩, Below.refl _ _⟩
          case round =>
            obtain ⟨lf, q, hq, rfl, rfl, ⟨q0, q1, q2⟩, hbw⟩ := hrel
            have hbx := HBX.out.below hbw (by omega)
            have c0 := hbx.cell 0
            have c1 := hbx.cell 1
            have c2 := hbx.cell 2
            have c3 := hbx.cell 3
            clear hbx
            simp at c0 c1 c2 c3
            have hbB : Below B W wr := ((Below.refl B W).alloc hB _).trans (hbw.mono (by omega))
            have hws : W.heap.size + 1 ≤ wr.heap.size := by have := hbw.size; simpa using this
            by_cases hlt : q < m
            · by_cases hlf : 0 ≤ lf
              · have hd : decide (0 ≤ lf) = true := decide_eq_true hlf
                obtain ⟨ad, rfl, hab, hcell⟩ := HK.out q hlt
                have hcc : ∀ j, j < 4 → wr.cell? (ad.add (q * 4 + j)) = some (us q j) := fun j hj => (hbB.cell (by rw [block_of_add]; exact hab)).trans ((HBL.out.cell (by rw [block_of_add]; exact hab)).trans (hcell j hj))
                obtain ⟨d0, d1, d2, d3⟩ := cells4 hcc
                clear hcc hcell
                have hkq : ks[q]? = some (ks[q]'(by rw [HMM.out]; exact hlt)) := List.getElem?_eq_getElem _
                generalize (ks[q]'(by rw [HMM.out]; exact hlt)) = t at hkq
                have HKQ := Hd hkq
                clear hkq
                go_wp2_with fail
                refine (HI.out q t HKQ.out lf _ (HBL.out.trans hbB) (by omega) (by omega) (by omega)).mono ?_
                rintro e w1 ⟨r, rfl, ⟨r0, r1, r2⟩, h1⟩
                go_wp2
                go_roundw
                case rel =>
                  refine ⟨r, q + 1, by omega, rfl, by go_num, ⟨r0, r1, fun hr => ?_⟩, hbw.trans (h1.mono hws)⟩
                  have := szs_take HKQ.out
                  have := r2 hr
                  have := q2 hlf
                  omega
                case measure => simp [intOf]; omega
              · have hd : decide (0 ≤ lf) = false := decide_eq_false hlf
                go_wp2
                go_ret
                exact ⟨lf, rfl, ⟨q0, q1, fun h => by omega⟩, ((Below.refl _ W).alloc (Nat.le_refl _) _).trans (hbw.mono (by omega))⟩
            · obtain rfl : m = q := by omega
              go_wp2
              go_ret
              refine ⟨lf, rfl, ⟨q0, q1, fun h => ?_⟩, ((Below.refl _ W).alloc (Nat.le_refl _) _).trans (hbw.mono (by omega))⟩
              have := q2 h
              rw [List.take_of_length_le (by rw [HMM.out]; exact Nat.le_refl _)] at this
              have e := HNN.out
              unfold Gm.sz
              omega

set_option maxRecDepth 100000 in
theorem gSmall_one {w : World} {B g : Nat} {a0 a1 a2 a3 : Value} {t : Gm} (h : GmAt w B (.agg #[a0, a1, a2, a3]) t) (hg : Blk w g 25 #[a0, a1, a2, a3]) (hB : B ≤ w.heap.size) :
    Calls Tryz.prog 13 #[.slice (some ⟨g, 0, none⟩) 1 1] w fun e W' => ∃ b : Bool, e = .returned (.bool b) ∧ (b = true → t.sz ≤ 2000) ∧ Below w.heap.size w W' := by
  have c0 : w.cell? ⟨g, 0, none⟩ = some a0 := hg.cell 0
  have c1 : w.cell? ⟨g, 1, none⟩ = some a1 := hg.cell 1
  have c2 : w.cell? ⟨g, 2, none⟩ = some a2 := hg.cell 2
  have c3 : w.cell? ⟨g, 3, none⟩ = some a3 := hg.cell 3
  have H := Hd h
  clear h hg
  go_enter Tryz.func13, Tryz.ntmps13
  go_wp2
  refine wp_loop_rounds 2 ?_
  rw [rounds_succ]
  go_wp2_with fail
  refine (gWeight_any H.out 2000 _ (Below.refl _ _) hB (by omega) (by omega)).mono ?_
  rintro e w1 ⟨r, rfl, ⟨r0, r1, r2⟩, h1⟩
  go_wp2
  rw [rounds_succ]
  go_wp2
  go_ret
  refine ⟨decide (0 ≤ r), rfl, fun h => ?_, h1⟩
  have h0 := of_decide_eq_true h
  have := r2 h0
  omega

theorem run_bits64 (b : Nat) (w : World) : (callFunc 110 #[.float .f64 b]).run Tryz.prog w = .ok (.value (.int .u64 (b : Int))) w := by
  rw [run_callFunc_extern Tryz.func110 (by kernel_rfl) (by kernel_rfl) (by kernel_rfl) (show Extern.find Tryz.f110 = some Extern.MathFloatBits.float64bits by kernel_rfl)]
  rfl
theorem run_frombits64 (b : Int) (w : World) : (callFunc 165 #[.int .u64 b]).run Tryz.prog w = .ok (.value (.float .f64 b.toNat)) w := by
  rw [run_callFunc_extern Tryz.func165 (by kernel_rfl) (by kernel_rfl) (by kernel_rfl) (show Extern.find Tryz.f165 = some Extern.MathFloatBits.float64frombits by kernel_rfl)]
  rfl

theorem zzFits2_any (k d : Int) (A K : Option Addr) (n m c c' : Nat) (w : World) :
    Calls Tryz.prog 8 #[.agg #[.int .i64 k, .int .i64 d, .slice A n c, .slice K m c']] w fun e W' => ∃ b : Bool, e = .returned (.bool b) ∧ Below w.heap.size w W' := by
  by_cases h1 : 2147483647 < n
  · go_enter Tryz.func8, Tryz.ntmps8
    go_wp2
    go_ret
    exact ⟨_, rfl, (Below.refl _ _).alloc (Nat.le_refl _) _⟩
  · by_cases h2 : 2147483647 < m
    · go_enter Tryz.func8, Tryz.ntmps8
      go_wp2
      go_ret
      exact ⟨_, rfl, (Below.refl _ _).alloc (Nat.le_refl _) _⟩
    · go_enter Tryz.func8, Tryz.ntmps8
      go_wp2
      go_ret
      exact ⟨_, rfl, (Below.refl _ _).alloc (Nat.le_refl _) _⟩

end Go.Proofs.YtofdccmmagcamaaGreatDoor

/- An argument of type impl.Geom, read as data, is a tree. -/
set_option maxHeartbeats 8000000
set_option linter.unusedSimpArgs false
set_option linter.unusedVariables false
namespace Go.Proofs.YtofdccmmagcamaaGreatDoor
open Go.RowKit Go.Deep

theorem list_of {α : Type} {P : Nat → α → Prop} : ∀ n, (∀ i, i < n → ∃ b, P i b) → ∃ l : List α, l.length = n ∧ ∀ i b, l[i]? = some b → P i b
  | 0, _ => ⟨[], rfl, fun i b h => by simp at h⟩
  | n + 1, h => by
    obtain ⟨l, hl, hp⟩ := list_of n fun i hi => h i (by omega)
    obtain ⟨b, hb⟩ := h n (by omega)
    refine ⟨l ++ [b], by simp [hl], fun i c hc => ?_⟩
    rcases Nat.lt_or_ge i n with hi | hi
    · rw [List.getElem?_append_left (by omega)] at hc
      exact hp i c hc
    · rw [List.getElem?_append_right (by omega)] at hc
      have e : i - l.length = 0 := by
        rcases Nat.eq_zero_or_pos (i - l.length) with e | e
        · exact e
        · rw [List.getElem?_eq_none (by simp; omega)] at hc; cases hc
      rw [e] at hc
      injection hc with hc
      have : i = n := by omega
      subst this; subst hc
      exact hb

theorem trod_fl {H : Type} {enc : TypeId × Value → H} {P : Program} {w : World} {base : Nat} {sp : Nat → Bool} {held : Bool} {fuel : Nat} {t : TypeId} {k : FloatKind} {c : Value} {y : DataW H × List MemPlace}
    (ht : P.underlying t = some (.float k)) (h : DataW.trod enc P w base sp held fuel t [c] = some y) : ∃ b, c = .float k b ∧ (Lit.float k b).wf = true := by
  cases fuel with
  | zero => simp [DataW.trod] at h
  | succ n =>
    simp only [DataW.trod, ht] at h
    cases c <;> simp at h
    rename_i k' b
    by_cases hk : k' = k
    · subst hk
      by_cases hw : (Lit.float k' b).wf = true
      · exact ⟨b, rfl, hw⟩
      · simp [hw] at h
    · simp [hk] at h

section
variable {H : Type} {enc : TypeId × Value → H} {w : World} {spare : Nat → Bool} {held : Bool}

theorem nums_of_trod {fuel : Nat} {v : Value} {y : DataW H × List MemPlace} (h : DataW.trod enc Tryz.prog w 0 spare held fuel 22 [v] = some y) :
    ∃ (A : Option Addr) (n c : Nat) (ns : List Nat), v = .slice A n c ∧ ns.length = n ∧ n ≤ c ∧ Reads w w.heap.size 1 A n (flV ns) ∧ ∀ b ∈ ns, b < 18446744073709551616 := by
  rcases DataW.trod_slice Tryz.underlying22 h with ⟨e, _⟩ | ⟨a, len, cap, elems, rest, n1, _, e, _, _, hl, _, hlen, hel, _⟩
  · injection e with e
    exact ⟨none, 0, 0, [], e, rfl, Nat.le_refl _, Reads.none_, by simp⟩
  · injection e with e
    have hc1 : Tryz.prog.cellsOf 73 = 1 := by kernel_rfl
    obtain ⟨ns, h1, h2⟩ := list_of (P := fun i b => w.cell? (a.add i) = some (.float .f64 b) ∧ (Lit.float .f64 b).wf = true) len fun i hi => by
      have he := hel i hi
      rw [hc1, Nat.mul_one, List.getElem?_eq_getElem (by omega)] at he
      obtain ⟨cs, k1, k2⟩ := Option.bind_eq_some_iff.1 he
      obtain ⟨_, hcl, hcc⟩ := World.cells?_some k1
      match cs, hcl with
      | [u], _ =>
        obtain ⟨b, rfl, hw⟩ := trod_fl Tryz.underlying73 k2
        have := hcc 0 (by omega)
        exact ⟨b, by simpa [Addr.add] using this, hw⟩
    refine ⟨some a, len, cap, ns, e, h1, hl, ⟨by rw [flV_length]; omega, fun h0 => ?_⟩, fun b hb => ?_⟩
    · refine ⟨a, rfl, ?_, fun j u hu => ?_⟩
      · have := World.block_lt_of_cell? w _ (h2 0 _ (List.getElem?_eq_getElem (by omega))).1
        rwa [block_of_add] at this
      · unfold flV at hu
        rw [List.getElem?_map] at hu
        obtain ⟨b, hb, rfl⟩ := Option.map_eq_some_iff.1 hu
        exact (h2 j b hb).1
    · obtain ⟨i, hi, rfl⟩ := List.mem_iff_getElem.1 hb
      have := (h2 i _ (List.getElem?_eq_getElem hi)).2
      simpa [Lit.wf] using this

set_option maxRecDepth 100000 in
/-- A datum of type impl.Geom is a tree. -/
theorem gm_of_trod : ∀ (fuel : Nat) (cs : List Value) (y : DataW H × List MemPlace), DataW.trod enc Tryz.prog w 0 spare held fuel 25 cs = some y →
    ∃ (k d : Int) (A K : Option Addr) (n m c c' : Nat) (t : Gm), cs = [.int .i64 k, .int .i64 d, .slice A n c, .slice K m c'] ∧ n ≤ c ∧ GmAt w w.heap.size (.agg #[.int .i64 k, .int .i64 d, .slice A n c, .slice K m c']) t := by
  intro fuel
  induction fuel using Nat.strongRecOn with
  | ind fuel ih =>
    intro cs y h
    have hC : Tryz.prog.cellsOf 25 = 4 := by kernel_rfl
    obtain ⟨xs, n, rfl, _, hlen, hxl, hg⟩ := DataW.trod_struct Tryz.underlying25 h
    rw [hC] at hlen
    match cs, hlen, xs, hxl with
    | [c0, c1, c2, c3], _, [y0, y1, y2, y3], _ =>
      have j0 : DataW.trod enc Tryz.prog w 0 spare held n 3 (List.take (Tryz.prog.cellsOf 3) [c0, c1, c2, c3]) = some y0 := hg 0 _ rfl
      have j1 : DataW.trod enc Tryz.prog w 0 spare held n 3 (List.take (Tryz.prog.cellsOf 3) [c1, c2, c3]) = some y1 := hg 1 _ rfl
      have j2 : DataW.trod enc Tryz.prog w 0 spare held n 22 (List.take (Tryz.prog.cellsOf 22) [c2, c3]) = some y2 := hg 2 _ rfl
      have j3 : DataW.trod enc Tryz.prog w 0 spare held n 23 (List.take (Tryz.prog.cellsOf 23) [c3]) = some y3 := hg 3 _ rfl
      have i1 : Tryz.prog.cellsOf 3 = 1 := by kernel_rfl
      have i2 : Tryz.prog.cellsOf 22 = 1 := by kernel_rfl
      have i3 : Tryz.prog.cellsOf 23 = 1 := by kernel_rfl
      rw [i1] at j0 j1
      rw [i2] at j2
      rw [i3] at j3
      simp only [List.take_succ_cons, List.take_zero] at j0 j1 j2 j3
      obtain ⟨k, hk, _, _⟩ := DataW.trod_int Tryz.underlying3 j0
      obtain rfl : c0 = .int .i64 k := by simpa using hk
      obtain ⟨d, hd, _, _⟩ := DataW.trod_int Tryz.underlying3 j1
      obtain rfl : c1 = .int .i64 d := by simpa using hd
      obtain ⟨A, nn, c, ns, rfl, en, hnc, hR, hb⟩ := nums_of_trod j2
      rcases DataW.trod_slice Tryz.underlying23 j3 with ⟨e, _⟩ | ⟨a, len, cap, elems, rest, n1, hf, e, _, _, hl, _, hel0, hel, _⟩
      · injection e with e
        subst e
        exact ⟨k, d, A, none, nn, 0, c, 0, .mk k d ns [], rfl, hnc, .mk (us := fun _ _ => .bool false) en rfl hR hb hnc (fun i hi => absurd hi (by omega)) (fun i t ht => by simp at ht)⟩
      · injection e with e
        subst e
        obtain ⟨l, hll, hlp⟩ := list_of (P := fun i (p : Gm × Value × Value × Value × Value) => (w.cell? (a.add (i * 4 + 0)) = some p.2.1 ∧ w.cell? (a.add (i * 4 + 1)) = some p.2.2.1 ∧ w.cell? (a.add (i * 4 + 2)) = some p.2.2.2.1 ∧ w.cell? (a.add (i * 4 + 3)) = some p.2.2.2.2) ∧ GmAt w w.heap.size (.agg #[p.2.1, p.2.2.1, p.2.2.2.1, p.2.2.2.2]) p.1) len fun i hi => by
          have he := hel i hi
          rw [hC, List.getElem?_eq_getElem (by omega)] at he
          obtain ⟨cs', k1, k2⟩ := Option.bind_eq_some_iff.1 he
          obtain ⟨k', d', A', K', n', m', c1', c2', t, rfl, _, hG⟩ := ih n1 (by omega) cs' _ k2
          obtain ⟨_, _, hcc⟩ := World.cells?_some k1
          have q := fun j (hj : j < 4) => (add_of_add a (i * 4) j) ▸ hcc j hj
          exact ⟨(t, _, _, _, _), ⟨q 0 (by omega), q 1 (by omega), q 2 (by omega), q 3 (by omega)⟩, hG⟩
        have hgt : ∀ i, i < len → ∃ p, l[i]? = some p := fun i hi => ⟨_, List.getElem?_eq_getElem (by omega)⟩
        refine ⟨k, d, A, some a, nn, len, c, cap, .mk k d ns (l.map (·.1)), rfl, hnc, .mk (us := fun i j => match l[i]? with
          | some p => (match j with | 0 => p.2.1 | 1 => p.2.2.1 | 2 => p.2.2.2.1 | _ => p.2.2.2.2)
          | none => .bool false) en (by simp [hll]) hR hb hnc (fun i hi => ?_) (fun i t ht => ?_)⟩
        · obtain ⟨p, hp⟩ := hgt i hi
          obtain ⟨⟨q0, q1, q2, q3⟩, _⟩ := hlp i p hp
          refine ⟨a, rfl, ?_, fun j hj => ?_⟩
          · have := World.block_lt_of_cell? w _ q0
            rwa [block_of_add] at this
          · rw [hp]
            match j, hj with
            | 0, _ => exact q0
            | 1, _ => exact q1
            | 2, _ => exact q2
            | 3, _ => exact q3
        · rw [List.getElem?_map] at ht
          obtain ⟨p, hp, rfl⟩ := Option.map_eq_some_iff.1 ht
          rw [hp]
          exact (hlp i p hp).2
end

end Go.Proofs.YtofdccmmagcamaaGreatDoor
