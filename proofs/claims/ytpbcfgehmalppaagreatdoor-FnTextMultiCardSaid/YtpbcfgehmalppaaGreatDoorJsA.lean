/- A geometry as plain data: how it lies in memory, and the size and the finiteness of it (each ends, and turns nothing that was there). -/
import Derived.Test.YtpbcfgehmalppaaGreatDoorFtI
namespace Go.Proofs.YtpbcfgehmalppaaGreatDoor
open Go.RowKit

/-- A geometry as plain data: kind, type, numbers as bits, kids. -/
inductive Gm where
  | mk (k d : Int) (ns : List Nat) (ks : List Gm)

mutual
/-- Parts and numbers. -/
def Gm.sz : Gm → Nat
  | .mk _ _ ns ks => 1 + ns.length + Gm.szs ks
def Gm.szs : List Gm → Nat
  | [] => 0
  | t :: ts => Gm.sz t + Gm.szs ts
end

theorem szs_snoc (l : List Gm) (t : Gm) : Gm.szs (l ++ [t]) = Gm.szs l + t.sz := by
  induction l with
  | nil => simp [Gm.szs]
  | cons a l ih => simp only [List.cons_append, Gm.szs, ih]; omega

/-- The value v reads as the geometry t in world w, below block B. -/
inductive GmAt (w : World) (B : Nat) : Value → Gm → Prop
  | mk {k d : Int} {ns : List Nat} {ks : List Gm} {n m : Nat} {A K : Option Addr} {c c' : Nat} {us : Nat → Nat → Value} (en : ns.length = n) (em : ks.length = m)
      (hn : Reads w B 1 A n (flV ns)) (hb : ∀ b ∈ ns, b < 18446744073709551616) (hcap : n ≤ c)
      (hk : ∀ i, i < m → ∃ ad, K = some ad ∧ ad.block < B ∧ ∀ j, j < 4 → w.cell? (ad.add (i * 4 + j)) = some (us i j))
      (hs : ∀ i t, ks[i]? = some t → GmAt w B (.agg #[us i 0, us i 1, us i 2, us i 3]) t) :
      GmAt w B (.agg #[.int .i64 k, .int .i64 d, .slice A n c, .slice K m c']) (.mk k d ns ks)

theorem GmAt.keepB {w w' : World} {B : Nat} {v : Value} {t : Gm} (h : GmAt w B v t) (hb : Below B w w') : GmAt w' B v t := by
  induction h with
  | mk en em hn hb' hcap hk hs ih =>
    refine .mk en em (hn.below hb) hb' hcap (fun i hi => ?_) ih
    obtain ⟨ad, e, hl, hc⟩ := hk i hi
    exact ⟨ad, e, hl, fun j hj => (hb.cell (by rw [block_of_add]; exact hl)).trans (hc j hj)⟩
theorem GmAt.more {w : World} {B B' : Nat} {v : Value} {t : Gm} (h : GmAt w B v t) (hB : B ≤ B') : GmAt w B' v t := by
  induction h with
  | mk en em hn hb' hcap hk hs ih =>
    refine .mk en em (hn.more hB) hb' hcap (fun i hi => ?_) ih
    obtain ⟨ad, e, hl, hc⟩ := hk i hi
    exact ⟨ad, e, by omega, hc⟩

theorem cells4 {w : World} {ad : Addr} {q : Nat} {f : Nat → Value} (h : ∀ j, j < 4 → w.cell? (ad.add (q * 4 + j)) = some (f j)) :
    w.cell? (ad.add (q * 4)) = some (f 0) ∧ w.cell? ⟨(ad.add (q * 4)).block, (ad.add (q * 4)).off + 1, none⟩ = some (f 1) ∧ w.cell? ⟨(ad.add (q * 4)).block, (ad.add (q * 4)).off + 2, none⟩ = some (f 2) ∧ w.cell? ⟨(ad.add (q * 4)).block, (ad.add (q * 4)).off + 3, none⟩ = some (f 3) := by
  have k : ∀ j, 0 < j → ad.add (q * 4 + j) = ⟨(ad.add (q * 4)).block, (ad.add (q * 4)).off + j, none⟩ := fun j hj => by
    rw [← add_of_add]
    generalize ad.add (q * 4) = p
    unfold Addr.add
    rw [if_neg (by omega)]
  refine ⟨h 0 (by omega), ?_, ?_, ?_⟩
  · rw [← k 1 (by omega)]; exact h 1 (by omega)
  · rw [← k 2 (by omega)]; exact h 2 (by omega)
  · rw [← k 3 (by omega)]; exact h 3 (by omega)

theorem sz_pos (t : Gm) : 1 ≤ t.sz := by cases t; unfold Gm.sz; omega
theorem szs_len : ∀ ks : List Gm, ks.length ≤ Gm.szs ks
  | [] => by simp
  | t :: ts => by
    have := szs_len ts
    have := sz_pos t
    simp only [List.length_cons, Gm.szs]
    omega
theorem sz_kid : ∀ {ks : List Gm} {q : Nat} {t : Gm}, ks[q]? = some t → t.sz ≤ Gm.szs ks
  | [], _, _, h => by simp at h
  | a :: ts, 0, t, h => by
    simp at h
    subst h
    simp only [Gm.szs]
    omega
  | a :: ts, q + 1, t, h => by
    have := sz_kid (ks := ts) (q := q) (t := t) (by simpa using h)
    simp only [Gm.szs]
    omega

theorem szs_take {ks : List Gm} {q : Nat} {t : Gm} (h : ks[q]? = some t) : Gm.szs (ks.take (q + 1)) = Gm.szs (ks.take q) + t.sz := by
  rw [List.take_add_one, h, Option.toList_some, szs_snoc]

theorem GmAt.shape {w : World} {B : Nat} {a0 a1 a2 a3 : Value} {t : Gm} (h : GmAt w B (.agg #[a0, a1, a2, a3]) t) :
    ∃ (k d : Int) (A K : Option Addr) (n m c c' : Nat), a0 = .int .i64 k ∧ a1 = .int .i64 d ∧ a2 = .slice A n c ∧ a3 = .slice K m c' := by
  generalize hv : Value.agg #[a0, a1, a2, a3] = v at h
  cases h with
  | @mk k d ns ks n m A K c c' us =>
    injection hv with hv
    simp at hv
    obtain ⟨h0, h1, h2, h3⟩ := hv
    exact ⟨k, d, A, K, n, m, c, c', h0, h1, h2, h3⟩

set_option maxHeartbeats 4000000 in
set_option maxRecDepth 100000 in
theorem gWeight_any {w : World} {B : Nat} {v : Value} {t : Gm} (h : GmAt w B v t) : ∀ (left : Int) (W : World), Below B w W → B ≤ W.heap.size → -1 ≤ left → left ≤ 1000000000 →
    Calls Tryz.prog 44 #[v, .int .i64 left] W fun e W' => ∃ r : Int, e = .returned (.int .i64 r) ∧ (-1 ≤ r ∧ r ≤ 1000000000 ∧ (0 ≤ r → r + t.sz ≤ left)) ∧ Below W.heap.size W W' := by
  induction h with
  | @mk k d ns ks n m A K c c' us en em hn hb hcap hk hs ih =>
    intro left W hbl hB hl0 hl1
    have HK := Lib.hid hk
    have HI := Lib.hid ih
    have HBL := Lib.hid hbl
    have HNN := Lib.hid en
    have HMM := Lib.hid em
    clear hn hb hk hs ih hbl en em
    by_cases h1 : left < 1
    · go_enter Tryz.func44, Tryz.ntmps44
      go_wp2
      go_ret
      exact ⟨-1, rfl, ⟨by omega, by omega, by omega⟩, (Below.refl _ _).alloc (Nat.le_refl _) _⟩
    · by_cases h2 : left < n
      · go_enter Tryz.func44, Tryz.ntmps44
        go_wp2
        go_ret
        exact ⟨-1, rfl, ⟨by omega, by omega, by omega⟩, (Below.refl _ _).alloc (Nat.le_refl _) _⟩
      · by_cases h3 : left < m
        · go_enter Tryz.func44, Tryz.ntmps44
          go_wp2
          go_ret
          exact ⟨-1, rfl, ⟨by omega, by omega, by omega⟩, (Below.refl _ _).alloc (Nat.le_refl _) _⟩
        · have hbox := Blk.new W 25 #[.int .i64 k, .int .i64 d, .slice A n c, .slice K m c']
          have HBX := Lib.hid hbox
          clear hbox
          go_enter Tryz.func44, Tryz.ntmps44
          go_wp2
          go_loopw [1, 5] (fun l i wr => ∃ (lf : Int) (q : Nat), q ≤ m ∧ l = .int .i64 lf ∧ i = .int .i64 q ∧ (-1 ≤ lf ∧ lf ≤ 1000000000 ∧ (0 ≤ lf → lf + (1 + n + Gm.szs (ks.take q)) ≤ left)) ∧ Below (W.heap.size + 1) (W.alloc (.cells #[.int .i64 k, .int .i64 d, .slice A n c, .slice K m c'] 25)) wr) (fun _ i _ => m - (intOf i).toNat)
          case atStart => exact ⟨left - 1 - n, 0, Nat.zero_le _, by go_num, rfl, ⟨by omega, by omega, fun _ => by simp [Gm.szs]; omega⟩, Below.refl _ _⟩
          case round =>
            obtain ⟨lf, q, hq, rfl, rfl, ⟨q0, q1, q2⟩, hbw⟩ := hrel
            have hbx := HBX.out.below hbw (by omega)
            have c0 := hbx.cell 0
            have c1 := hbx.cell 1
            have c2 := hbx.cell 2
            have c3 := hbx.cell 3
            clear hbx
            simp at c0 c1 c2 c3
            have hbB : Below B W wr := ((Below.refl B W).alloc hB _).trans (hbw.mono (by omega))
            have hws : W.heap.size + 1 ≤ wr.heap.size := by have := hbw.size; simpa using this
            by_cases hlt : q < m
            · by_cases hlf : 0 ≤ lf
              · have hd : decide (0 ≤ lf) = true := decide_eq_true hlf
                obtain ⟨ad, rfl, hab, hcell⟩ := HK.out q hlt
                have hcc : ∀ j, j < 4 → wr.cell? (ad.add (q * 4 + j)) = some (us q j) := fun j hj => (hbB.cell (by rw [block_of_add]; exact hab)).trans ((HBL.out.cell (by rw [block_of_add]; exact hab)).trans (hcell j hj))
                obtain ⟨d0, d1, d2, d3⟩ := cells4 hcc
                clear hcc hcell
                have hkq : ks[q]? = some (ks[q]'(by rw [HMM.out]; exact hlt)) := List.getElem?_eq_getElem _
                generalize (ks[q]'(by rw [HMM.out]; exact hlt)) = t at hkq
                have HKQ := Lib.hid hkq
                clear hkq
                go_wp2_with fail
                refine (HI.out q t HKQ.out lf _ (HBL.out.trans hbB) (by omega) (by omega) (by omega)).mono ?_
                rintro e w1 ⟨r, rfl, ⟨r0, r1, r2⟩, h1⟩
                go_wp2
                go_roundw
                case rel =>
                  refine ⟨r, q + 1, by omega, rfl, by go_num, ⟨r0, r1, fun hr => ?_⟩, hbw.trans (h1.mono hws)⟩
                  have := szs_take HKQ.out
                  have := r2 hr
                  have := q2 hlf
                  omega
                case measure => simp [intOf]; omega
              · have hd : decide (0 ≤ lf) = false := decide_eq_false hlf
                go_wp2
                go_ret
                exact ⟨lf, rfl, ⟨q0, q1, fun h => by omega⟩, ((Below.refl _ W).alloc (Nat.le_refl _) _).trans (hbw.mono (by omega))⟩
            · obtain rfl : m = q := by omega
              go_wp2
              go_ret
              refine ⟨lf, rfl, ⟨q0, q1, fun h => ?_⟩, ((Below.refl _ W).alloc (Nat.le_refl _) _).trans (hbw.mono (by omega))⟩
              have := q2 h
              rw [List.take_of_length_le (by rw [HMM.out]; exact Nat.le_refl _)] at this
              have e := HNN.out
              unfold Gm.sz
              omega

set_option maxHeartbeats 4000000 in
set_option maxRecDepth 100000 in
theorem gSmall_one {w : World} {B g : Nat} {a0 a1 a2 a3 : Value} {t : Gm} (h : GmAt w B (.agg #[a0, a1, a2, a3]) t) (hg : Blk w g 25 #[a0, a1, a2, a3]) (hB : B ≤ w.heap.size) :
    Calls Tryz.prog 18 #[.slice (some ⟨g, 0, none⟩) 1 1] w fun e W' => ∃ b : Bool, e = .returned (.bool b) ∧ (b = true → t.sz ≤ 2000) ∧ Below w.heap.size w W' := by
  have c0 : w.cell? ⟨g, 0, none⟩ = some a0 := hg.cell 0
  have c1 : w.cell? ⟨g, 1, none⟩ = some a1 := hg.cell 1
  have c2 : w.cell? ⟨g, 2, none⟩ = some a2 := hg.cell 2
  have c3 : w.cell? ⟨g, 3, none⟩ = some a3 := hg.cell 3
  have H := Lib.hid h
  clear h hg
  go_enter Tryz.func18, Tryz.ntmps18
  go_wp2
  refine wp_loop_rounds 2 ?_
  rw [rounds_succ]
  go_wp2_with fail
  refine (gWeight_any H.out 2000 _ (Below.refl _ _) hB (by omega) (by omega)).mono ?_
  rintro e w1 ⟨r, rfl, ⟨r0, r1, r2⟩, h1⟩
  go_wp2
  rw [rounds_succ]
  go_wp2
  go_ret
  refine ⟨decide (0 ≤ r), rfl, fun h => ?_, h1⟩
  have h0 := of_decide_eq_true h
  have := r2 h0
  omega

theorem run_bits64 (b : Nat) (w : World) : (callFunc 128 #[.float .f64 b]).run Tryz.prog w = .ok (.value (.int .u64 (b : Int))) w := by
  rw [run_callFunc_extern Tryz.func128 (by kernel_rfl) (by kernel_rfl) (by kernel_rfl) (show Extern.find Tryz.f128 = some Extern.MathFloatBits.float64bits by kernel_rfl)]
  rfl
theorem run_frombits64 (b : Int) (w : World) : (callFunc 127 #[.int .u64 b]).run Tryz.prog w = .ok (.value (.float .f64 b.toNat)) w := by
  rw [run_callFunc_extern Tryz.func127 (by kernel_rfl) (by kernel_rfl) (by kernel_rfl) (show Extern.find Tryz.f127 = some Extern.MathFloatBits.float64frombits by kernel_rfl)]
  rfl

theorem abs_ends (b : Nat) (w : World) : Calls Tryz.prog 105 #[.float .f64 b] w fun e w' => ∃ r, e = .returned (.float .f64 r) ∧ w' = w := by
  have h1 := run_bits64 b
  have h2 := fun x : Int => run_frombits64 x
  go_enter Tryz.func105, Tryz.ntmps105
  go_wp2
  go_ret
  exact ⟨_, rfl, rfl⟩

theorem isInf_ends (b : Nat) (w : World) : Calls Tryz.prog 50 #[.float .f64 b, .int .i64 0] w fun e w' => ∃ r, e = .returned (.bool r) ∧ w' = w := by
  go_enter Tryz.func50, Tryz.ntmps50
  go_wp2_with fail
  refine (abs_ends b _).mono ?_
  rintro e w1 ⟨r, rfl, rfl⟩
  go_wp2
  go_ret
  exact ⟨_, rfl, rfl⟩

theorem isNaN_ends (b : Nat) (w : World) : Calls Tryz.prog 49 #[.float .f64 b] w fun e w' => ∃ r, e = .returned (.bool r) ∧ w' = w := by
  go_enter Tryz.func49, Tryz.ntmps49
  go_wp2
  go_ret
  exact ⟨_, rfl, rfl⟩

theorem gFinite_ends (b : Nat) (w : World) : Calls Tryz.prog 27 #[.float .f64 b] w fun e w' => ∃ r, e = .returned (.bool r) ∧ w' = w := by
  go_enter Tryz.func27, Tryz.ntmps27
  go_wp2_with fail
  refine (isNaN_ends b _).mono ?_
  rintro e w1 ⟨r, rfl, rfl⟩
  cases r
  · go_wp2_with fail
    refine (isInf_ends b _).mono ?_
    rintro e w1 ⟨r, rfl, rfl⟩
    go_wp2
    go_ret
    exact ⟨_, rfl, rfl⟩
  · go_wp2
    go_ret
    exact ⟨_, rfl, rfl⟩

set_option maxHeartbeats 4000000 in
set_option maxRecDepth 100000 in
theorem gAll_any {w : World} {B : Nat} {v : Value} {t : Gm} (h : GmAt w B v t) : t.sz ≤ 2000 → ∀ (W : World), Below B w W → B ≤ W.heap.size →
    Calls Tryz.prog 26 #[v, .func (.func 27) #[] #[]] W fun e W' => ∃ r : Bool, e = .returned (.bool r) ∧ Below W.heap.size W W' := by
  induction h with
  | @mk k d ns ks n m A K c c' us en em hn hb hcap hk hs ih =>
    intro hsz W hbl hB
    have hn2 : n ≤ 2000 ∧ m ≤ 2000 ∧ Gm.szs ks ≤ 2000 := by
      have := szs_len ks
      unfold Gm.sz at hsz
      omega
    obtain ⟨hn2, hm2, hs2⟩ := hn2
    clear hsz
    have hfl : (flV ns).length = n := by rw [flV_length, en]
    have HN := Lib.hid hn
    have HK := Lib.hid hk
    have HI := Lib.hid ih
    have HS := Lib.hid hs
    have HBL := Lib.hid hbl
    have HMM := Lib.hid em
    have HNN := Lib.hid en
    have HFL := Lib.hid hfl
    have hbox := Blk.new W 25 #[.int .i64 k, .int .i64 d, .slice A n c, .slice K m c']
    have HBX := Lib.hid hbox
    clear hn hb hk hs ih hbl en em hfl hbox
    go_enter Tryz.func26, Tryz.ntmps26
    go_wp2
    go_loopw [12] (fun i wr => ∃ (q : Nat), q ≤ n ∧ i = .int .i64 q ∧ wr = (W.alloc (.cells #[.int .i64 k, .int .i64 d, .slice A n c, .slice K m c'] 25))) (fun i _ => n - (intOf i).toNat)
    case atStart => exact ⟨0, Nat.zero_le _, rfl, rfl⟩
    case round =>
      obtain ⟨q, hq, rfl, rfl⟩ := hrel
      by_cases hlt : q < n
      · obtain ⟨ad, u, rfl, hab, hu, hcell⟩ := HN.out.at_ hlt
        have hbB : Below B W (W.alloc (.cells #[.int .i64 k, .int .i64 d, .slice (some ad) n c, .slice K m c'] 25)) := (Below.refl B W).alloc hB _
        have d0 := (hbB.cell (p := ad.add q) (by rw [block_of_add]; exact hab)).trans ((HBL.out.cell (by rw [block_of_add]; exact hab)).trans hcell)
        have hx : u = .float .f64 (ns.getD q 0) := by
          have hl : q < ns.length := by rw [HNN.out]; exact hlt
          unfold flV at hu
          rw [List.getElem?_map, List.getElem?_eq_getElem hl] at hu
          rw [List.getD_eq_getElem?_getD, List.getElem?_eq_getElem hl]
          simpa using hu.symm
        subst hx
        clear hcell hu
        generalize ns.getD q 0 = b at *
        go_wp2_with fail
        refine (gFinite_ends b _).mono ?_
        rintro e w1 ⟨r, rfl, rfl⟩
        cases r
        · go_wp2
          go_ret
          exact ⟨_, rfl, (Below.refl _ W).alloc (Nat.le_refl _) _⟩
        · go_wp2
          go_roundw
          case rel => exact ⟨q + 1, by omega, by go_num, by first | rfl | trivial⟩
          case measure => simp [intOf]; omega
      · obtain rfl : n = q := by omega
        go_wp2
        go_loopw [24] (fun i wr => ∃ (q : Nat), q ≤ m ∧ i = .int .i64 q ∧ Below (W.heap.size + 1) (W.alloc (.cells #[.int .i64 k, .int .i64 d, .slice A n c, .slice K m c'] 25)) wr) (fun i _ => m - (intOf i).toNat)
        case atStart => exact ⟨0, Nat.zero_le _, rfl, Below.refl _ _⟩
        case round =>
          obtain ⟨q, hq, rfl, hbw⟩ := hrel
          have hbB : Below B W wr := ((Below.refl B W).alloc hB _).trans (hbw.mono (by omega))
          have hws : W.heap.size + 1 ≤ wr.heap.size := by have := hbw.size; simpa using this
          by_cases hlt : q < m
          · obtain ⟨ad, rfl, hab, hcell⟩ := HK.out q hlt
            have hcc : ∀ j, j < 4 → wr.cell? (ad.add (q * 4 + j)) = some (us q j) := fun j hj => (hbB.cell (by rw [block_of_add]; exact hab)).trans ((HBL.out.cell (by rw [block_of_add]; exact hab)).trans (hcell j hj))
            obtain ⟨d0, d1, d2, d3⟩ := cells4 hcc
            clear hcc hcell
            have hkq : ks[q]? = some (ks[q]'(by rw [HMM.out]; exact hlt)) := List.getElem?_eq_getElem _
            generalize (ks[q]'(by rw [HMM.out]; exact hlt)) = t at hkq
            obtain ⟨k', d', A', K', n', m', c1, c2, e0, e1, e2, e3⟩ := (HS.out q t hkq).shape
            have hI := HI.out q t hkq (Nat.le_trans (sz_kid hkq) hs2)
            rw [e0] at d0 hI
            rw [e1] at d1 hI
            rw [e2] at d2 hI
            rw [e3] at d3 hI
            have HI2 := Lib.hid hI
            clear hkq hI e0 e1 e2 e3
            have hA : Below B w (wr.alloc (.cells #[.int .i64 k', .int .i64 d', .slice A' n' c1, .slice K' m' c2] 25)) := (HBL.out.trans hbB).trans ((Below.refl _ wr).alloc (by omega) _)
            have HA := Lib.hid hA
            clear hA
            go_wp2_with fail
            refine (HI2.out _ HA.out (by simp; omega)).mono ?_
            rintro e w1 ⟨r, rfl, h1⟩
            have hbw1 := hbw.trans (((Below.refl _ wr).alloc hws (.cells #[.int .i64 k', .int .i64 d', .slice A' n' c1, .slice K' m' c2] 25)).trans (h1.mono (by simp; omega)))
            have HW1 := Lib.hid hbw1
            clear hbw1 h1
            cases r
            · go_wp2
              go_ret
              exact ⟨_, rfl, ((Below.refl _ W).alloc (Nat.le_refl _) _).trans (HW1.out.mono (by omega))⟩
            · go_wp2
              go_roundw
              case rel => exact ⟨q + 1, by omega, by go_num, HW1.out⟩
              case measure => simp [intOf]; omega
          · obtain rfl : m = q := by omega
            go_wp2
            go_ret
            exact ⟨_, rfl, ((Below.refl _ W).alloc (Nat.le_refl _) _).trans (hbw.mono (by omega))⟩

theorem zzFits2_any (k d : Int) (A K : Option Addr) (n m c c' : Nat) (w : World) :
    Calls Tryz.prog 9 #[.agg #[.int .i64 k, .int .i64 d, .slice A n c, .slice K m c']] w fun e W' => ∃ b : Bool, e = .returned (.bool b) ∧ Below w.heap.size w W' := by
  by_cases h1 : 2147483647 < n
  · go_enter Tryz.func9, Tryz.ntmps9
    go_wp2
    go_ret
    exact ⟨_, rfl, (Below.refl _ _).alloc (Nat.le_refl _) _⟩
  · by_cases h2 : 2147483647 < m
    · go_enter Tryz.func9, Tryz.ntmps9
      go_wp2
      go_ret
      exact ⟨_, rfl, (Below.refl _ _).alloc (Nat.le_refl _) _⟩
    · go_enter Tryz.func9, Tryz.ntmps9
      go_wp2
      go_ret
      exact ⟨_, rfl, (Below.refl _ _).alloc (Nat.le_refl _) _⟩

set_option maxHeartbeats 4000000 in
set_option maxRecDepth 100000 in
theorem kIs_any {k d : Int} {a2 a3 : Value} (j : Int) {t : Gm} {B : Nat} (w : World) (h : GmAt w B (.agg #[.int .i64 k, .int .i64 d, a2, a3]) t) (hB : B ≤ w.heap.size) :
    Calls Tryz.prog 10 #[.agg #[.int .i64 k, .int .i64 d, a2, a3], .int .i64 j] w fun e W' => ∃ b : Bool, e = .returned (.bool b) ∧ (b = true → k = j ∧ t.sz ≤ 2000) ∧ Below w.heap.size w W' := by
  have hbox := Blk.new w 25 #[.int .i64 k, .int .i64 d, a2, a3]
  have HBX := Lib.hid hbox
  have H := Lib.hid h
  clear hbox h
  by_cases hj : k = j
  · subst hj
    have hd : decide (k = k) = true := by simp
    go_enter Tryz.func10, Tryz.ntmps10
    go_wp2_with fail
    have hW1 : Below w.heap.size w (w.alloc (.cells #[.int .i64 k, .int .i64 d, a2, a3] 25)) := (Below.refl _ _).alloc (Nat.le_refl _) _
    have hW2 := hW1.alloc (by simp) (.cells #[.int .i64 k, .int .i64 d, a2, a3] 25)
    have hb1 := Blk.new (w.alloc (.cells #[.int .i64 k, .int .i64 d, a2, a3] 25)) 25 #[.int .i64 k, .int .i64 d, a2, a3]
    rw [World.size_alloc] at hb1
    refine (gSmall_one (H.out.keepB (hW2.mono hB)) hb1 (by simp; omega)).mono ?_
    rintro e w1 ⟨r, rfl, hr, h1⟩
    have hW3 := hW2.trans (h1.mono (by simp; omega))
    have c0 := (HBX.out.below ((Below.refl _ _).alloc (Nat.le_refl _) (.cells #[.int .i64 k, .int .i64 d, a2, a3] 25)) (by simp)).below h1 (by simp; omega)
    have HW3 := Lib.hid hW3
    have HR := Lib.hid hr
    have d0 := c0.cell 0
    have d1 := c0.cell 1
    have d2 := c0.cell 2
    have d3 := c0.cell 3
    simp at d0 d1 d2 d3
    clear hW1 hW2 hW3 h1 hr c0
    cases r
    · go_wp2
      go_ret
      exact ⟨_, rfl, fun h => by simp at h, HW3.out⟩
    · go_wp2_with fail
      refine (gAll_any H.out (HR.out (by first | rfl | trivial)) _ (HW3.out.mono hB) (Nat.le_trans hB HW3.out.size)).mono ?_
      rintro e w2 ⟨r, rfl, h2⟩
      go_wp2
      go_ret
      exact ⟨_, rfl, fun _ => ⟨by first | rfl | trivial, HR.out (by first | rfl | trivial)⟩, HW3.out.trans (h2.mono HW3.out.size)⟩
  · have hd : decide (k = j) = false := decide_eq_false hj
    go_enter Tryz.func10, Tryz.ntmps10
    go_wp2
    go_ret
    exact ⟨_, rfl, fun h => by simp at h, (Below.refl _ _).alloc (Nat.le_refl _) _⟩

end Go.Proofs.YtpbcfgehmalppaaGreatDoor
