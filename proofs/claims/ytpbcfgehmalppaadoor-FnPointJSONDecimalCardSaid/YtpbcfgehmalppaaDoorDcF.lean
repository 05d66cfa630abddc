/- The law's own text of a decimal: powers of ten, digits, and the text. -/
import Derived.Test.YtpbcfgehmalppaaDoorDcE
import Derived.Test.YtpbcfgehmalppaaDoorJsG
namespace Go.Proofs.YtpbcfgehmalppaaDoor
open Go.RowKit

theorem dPower_any (n : Nat) (hn : n ≤ 15) (w : World) : Calls Tryd.prog 11 #[.int .i64 n] w fun e w' => e = .returned (.int .i64 ((10 ^ n : Nat) : Int)) ∧ w' = w := by
  go_enter Tryd.func11, Tryd.ntmps11
  go_wp2
  go_loopw [3, 5] (fun u i wr => ∃ j : Nat, j ≤ n ∧ u = .int .i64 ((10 ^ j : Nat) : Int) ∧ i = .int .i64 j ∧ wr = w) (fun _ i _ => n - (intOf i).toNat)
  case atStart => exact ⟨0, by omega, rfl, rfl, rfl⟩
  case round =>
    obtain ⟨j, hj, rfl, rfl, rfl⟩ := hrel
    by_cases hlt : j < n
    · have hb : 10 ^ j ≤ 10 ^ 14 := Nat.pow_le_pow_right (by omega) (by omega)
      have hs : ((10 ^ (j + 1) : Nat) : Int) = ((10 ^ j : Nat) : Int) * 10 := by rw [Nat.pow_succ]; omega
      have HS := Lib.hid hs
      clear hs
      generalize 10 ^ j = t at *
      go_wp2
      go_roundw
      case rel => exact ⟨j + 1, by omega, by rw [HS.out], by go_num, by first | rfl | trivial⟩
      case measure => simp [intOf]; omega
    · obtain rfl : n = j := by omega
      go_wp2
      go_ret
      exact ⟨rfl, rfl⟩

theorem dl_div {n j : Nat} (h : n < 18446744073709551616) : n / 10 ^ j = 0 ↔ dl n ≤ j := by
  constructor
  · intro h0
    refine Nat.le_of_not_lt fun hl => ?_
    have h1 := Nat.lt_of_div_eq_zero (Nat.pow_pos (by omega)) h0
    by_cases hn : n = 0
    · unfold dl at hl; rw [if_pos hn] at hl; omega
    · have h2 := (dl_ge hn h).1
      have h3 : 10 ^ j ≤ 10 ^ (dl n - 1) := Nat.pow_le_pow_right (by omega) (by omega)
      omega
  · intro hl
    exact Nat.div_eq_of_lt (Nat.lt_of_lt_of_le (dl_lt h) (Nat.pow_le_pow_right (by omega) hl))
theorem dgs_succ (n j : Nat) : dgs n (j + 1) = dgt n j :: dgs n j := by
  unfold dgs
  rw [List.range_succ_eq_map, List.map_cons, List.map_map]
  congr 1
  refine List.map_congr_left fun i hi => ?_
  show dgt n (j + 1 - 1 - (i + 1)) = dgt n (j - 1 - i)
  congr 1
  omega
theorem dgs_len (n j : Nat) : (dgs n j).length = j := by simp [dgs]
def strLen : Value → Nat
  | .string s => s.size
  | _ => 0
theorem dl_le {n : Nat} (h : n < 18446744073709551616) : dl n ≤ 20 := by
  unfold dl
  split
  · omega
  · exact ndig_le n h

set_option maxRecDepth 100000 in
theorem dDigits_any (n W : Nat) (hn : n < 1000000000000000000) (hw : W ≤ 15) (w : World) : Calls Tryd.prog 29 #[.int .i64 n, .int .i64 W] w fun e w' => e = .returned (.string (strOfNums (dDig n W))) ∧ Below w.heap.size w w' := by
  have hdl := dl_le (show n < 18446744073709551616 by omega)
  obtain ⟨L, hL⟩ : ∃ L, L = max W (dl n) := ⟨_, rfl⟩
  have hD : dDig n W = dgs n L := by unfold dDig; rw [hL]
  rw [hD]
  have hL20 : L ≤ 20 := by omega
  have hLd : ∀ j : Nat, j ≤ L → (L = j ↔ n / 10 ^ j = 0 ∧ W ≤ j) := fun j hj => by
    rw [dl_div (by omega)]
    omega
  clear hL hD
  go_enter Tryd.func29, Tryd.ntmps29
  go_wp2
  go_loopw [0, 5] (fun a s wr => ∃ (j : Nat) (S : ByteArray), j ≤ L ∧ a = .int .i64 ((n / 10 ^ j : Nat) : Int) ∧ s = .string S ∧ Hid (S = strOfNums (dgs n j)) ∧ S.size = j ∧ Below w.heap.size w wr) (fun _ s _ => L - strLen s)
  case atStart => exact ⟨0, _, by omega, by simp, rfl, rfl, rfl, Below.refl _ _⟩
  case round =>
    obtain ⟨j, S, hj, rfl, rfl, HS, hsz, hbw⟩ := hrel
    have hdg : dgt n j = ((48 + n / 10 ^ j % 10 : Nat) : Int) := rfl
    have hnx : n / 10 ^ (j + 1) = n / 10 ^ j / 10 := by rw [Nat.pow_succ, Nat.div_div_eq_div_mul]
    have hsu := dgs_succ n j
    have hLj := hLd j hj
    have hnb : n / 10 ^ j ≤ n := Nat.div_le_self _ _
    rw [hdg] at hsu
    have HSU := Lib.hid hsu
    have HNX := Lib.hid hnx
    clear hsu hnx hdg
    generalize n / 10 ^ j = a at *
    have hcv : (convert 32 9 (.slice (some ⟨wr.heap.size, 0, none⟩) 1 1)).run Tryd.prog (wr.alloc (.cells #[.int .u8 (48 + (a : Int) % 10)] 5)) = .ok (.string (strOfNums [48 + (a : Int) % 10])) (wr.alloc (.cells #[.int .u8 (48 + (a : Int) % 10)] 5)) :=
      run_convert_bytes_arg _ 32 5 Tryd.underlying32 Tryd.underlying5 wr.heap.size 0 1 1 [48 + (a : Int) % 10] rfl (fun i hi => by
        obtain rfl : i = 0 := by omega
        exact (Blk.new wr 5 #[.int .u8 (48 + (a : Int) % 10)]).cell 0) 9 Tryd.underlying9
    have hsz2 : (strOfNums [48 + (a : Int) % 10]).size = 1 := by rw [strOfNums_size]; rfl
    have hnew : strOfNums [48 + (a : Int) % 10] ++ S = strOfNums (dgs n (j + 1)) := by
      rw [HS.out, strOfNums_app, HSU.out]
      congr 1
    have HNW := Lib.hid hnew
    have HCV := Lib.hid hcv
    clear hnew
    have hbw2 : Below w.heap.size w (wr.alloc (.cells #[.int .u8 (48 + (a : Int) % 10)] 5)) := hbw.alloc hbw.size _
    generalize hT : strOfNums [48 + (a : Int) % 10] = T at *
    by_cases hlt : j < L
    · by_cases ha : 0 < a
      · go_wp2
        go_roundw
        case rel =>
          refine ⟨j + 1, T ++ S, by omega, by rw [HNX.out]; simp, rfl, HNW.out, by rw [ByteArray.size_append]; omega, hbw2⟩
        case measure => simp [strLen]; omega
      · obtain rfl : a = 0 := by omega
        have hjW : j < W := by omega
        rw [show (48 + ((0 : Nat) : Int) % 10) = 48 by decide] at hcv hbw2
        go_wp2
        go_roundw
        case rel =>
          refine ⟨j + 1, T ++ S, by omega, by rw [HNX.out]; simp, rfl, HNW.out, by rw [ByteArray.size_append]; omega, hbw2⟩
        case measure => simp [strLen]; omega
    · obtain rfl : L = j := by omega
      obtain ⟨rfl, hWj⟩ := hLj.1 rfl
      go_wp2
      go_ret
      refine ⟨?_, hbw⟩
      rw [HS.out]
      rfl

theorem posT_of {X p a q : Nat} (h : strip X p = (a, q)) : posT X p = if q = 0 then dDig a 1 else dDig (a / 10 ^ q) 1 ++ 46 :: dDig (a % 10 ^ q) q := by
  unfold posT
  rw [h]
theorem strip_done {n m a q : Nat} (h : strip n m = (a, q)) (hd : m = 0 ∨ n % 10 ≠ 0) : a = n ∧ q = m := by
  cases m with
  | zero => unfold strip at h; injection h with h1 h2; exact ⟨h1.symm, h2.symm⟩
  | succ m =>
    unfold strip at h
    rw [if_neg (by rcases hd with h | h; · omega
                   exact h)] at h
    injection h with h1 h2
    exact ⟨h1.symm, h2.symm⟩
theorem dDig_size {n W : Nat} (h : n < 18446744073709551616) (hw : W ≤ 15) : (strOfNums (dDig n W)).size ≤ 20 := by
  rw [strOfNums_size]
  unfold dDig
  rw [dgs_len]
  have := dl_le h
  omega

set_option maxHeartbeats 2000000 in
set_option maxRecDepth 100000 in
theorem dText_any (x : Int) (X p : Nat) (hX : x.natAbs = X) (hx : X < 1000000000000000) (hp : p < 16) (w : World) : Calls Tryd.prog 13 #[.int .i64 x, .int .i64 p] w fun e w' => e = .returned (.string (strOfNums ((if x < 0 then [45] else []) ++ posT X p))) ∧ Below w.heap.size w w' := by
  obtain ⟨a0, q0, hs⟩ : ∃ a q, strip X p = (a, q) := ⟨_, _, rfl⟩
  by_cases hx0 : x < 0
  · have hx1 : -x = (X : Int) := by omega
    have hsg : (if x < 0 then [45] else ([] : List Int)) = [45] := if_pos hx0
    rw [hsg]
    clear hX hsg
    go_enter Tryd.func13, Tryd.ntmps13
    go_wp2
    go_loopw [0, 1] (fun a q wr => ∃ (n m : Nat), a = .int .i64 (n : Int) ∧ q = .int .i64 (m : Int) ∧ n ≤ X ∧ m ≤ p ∧ Hid (strip n m = (a0, q0)) ∧ wr = w) (fun _ q _ => (intOf q).toNat)
    case atStart => exact ⟨X, p, rfl, rfl, Nat.le_refl _, Nat.le_refl _, hs, rfl⟩
    case round =>
      obtain ⟨n, m, rfl, rfl, hn, hm, HST, rfl⟩ := hrel
      have HPT := Lib.hid (posT_of hs)
      have hdiv : (n : Int) / ((10 ^ m : Nat) : Int) = ((n / 10 ^ m : Nat) : Int) := (Int.natCast_ediv n (10 ^ m)).symm
      have hmod : (n : Int) % ((10 ^ m : Nat) : Int) = ((n % 10 ^ m : Nat) : Int) := (Int.natCast_emod n (10 ^ m)).symm
      have hpm : 0 < 10 ^ m := Nat.pow_pos (by omega)
      have hpm2 : 10 ^ m ≤ 10 ^ 15 := Nat.pow_le_pow_right (by omega) (by omega)
      have hdle : n / 10 ^ m ≤ n := Nat.div_le_self _ _
      have hmle : n % 10 ^ m ≤ n := Nat.mod_le _ _
      have hpow := dPower_any m (by omega)
      have hdg0 := dDigits_any n 1 (by omega) (by omega)
      have hdg1 := dDigits_any (n / 10 ^ m) 1 (by omega) (by omega)
      have hdg2 := dDigits_any (n % 10 ^ m) m (by omega) (by omega)
      have hz0 := dDig_size (n := n) (W := 1) (by omega) (by omega)
      have hz1 := dDig_size (n := n / 10 ^ m) (W := 1) (by omega) (by omega)
      have hz2 := dDig_size (n := n % 10 ^ m) (W := m) (by omega) (by omega)
      have hres0 : m = 0 → strOfNums [45] ++ strOfNums (dDig n 1) = strOfNums ([45] ++ posT X p) := fun h => by
        obtain ⟨rfl, rfl⟩ := strip_done HST.out (.inl h)
        rw [HPT.out, if_pos h, strOfNums_app]
      have hres1 : m ≠ 0 → n % 10 ≠ 0 → strOfNums [45] ++ strOfNums (dDig (n / 10 ^ m) 1) ++ strOfNums [46] ++ strOfNums (dDig (n % 10 ^ m) m) = strOfNums ([45] ++ posT X p) := fun h h' => by
        obtain ⟨rfl, rfl⟩ := strip_done HST.out (.inr h')
        rw [HPT.out, if_neg h, strOfNums_app, strOfNums_app, strOfNums_app]
        congr 1
        simp
      have hdi := HST.out
      have HR0 := Lib.hid hres0
      have HR1 := Lib.hid hres1
      have HP := Lib.hid hpow
      have HD0 := Lib.hid hdg0
      have HD1 := Lib.hid hdg1
      have HD2 := Lib.hid hdg2
      clear hres0 hres1 hpow hdg0 hdg1 hdg2 hs hdi
      by_cases hm0 : 0 < m
      · by_cases hn0 : n % 10 = 0
        · have hn1 : (n : Int) % 10 = 0 := by omega
          clear hdiv hmod
          go_wp2
          go_roundw
          case rel =>
            refine ⟨n / 10, m - 1, by go_num, by go_num, by omega, by omega, ?_, by first | rfl | trivial⟩
            have h := HST.out
            obtain ⟨m', rfl⟩ : ∃ m', m = m' + 1 := ⟨m - 1, by omega⟩
            unfold strip at h
            rw [if_pos hn0] at h
            exact h
          case measure => simp [intOf]; omega
        · have hn1 : ¬ (n : Int) % 10 = 0 := by omega
          have hR := HR1.out (by omega) hn0
          generalize hT1 : strOfNums (dDig (n / 10 ^ m) 1) = T1 at *
          generalize hT2 : strOfNums (dDig (n % 10 ^ m) m) = T2 at *
          have HRR := Lib.hid hR
          clear hR
          generalize hdq : n / 10 ^ m = dq at *
          generalize hdr : n % 10 ^ m = dr at *
          generalize hpp : 10 ^ m = pp at *
          clear hdq hdr hpp hT1 hT2
          have hppb : ((pp : Int) == 0) = false := by rw [beq_eq_false_iff_ne]; omega
          go_wp2_with fail
          refine (HP.out _).mono ?_
          rintro e w1 ⟨rfl, rfl⟩
          go_wp2_with fail
          refine (HD1.out _).mono ?_
          rintro e w2 ⟨rfl, h2⟩
          go_wp2_with fail
          refine (HP.out _).mono ?_
          rintro e w3 ⟨rfl, rfl⟩
          go_wp2_with fail
          refine (HD2.out _).mono ?_
          rintro e w4 ⟨rfl, h4⟩
          go_wp2
          go_ret
          exact ⟨congrArg (fun s => Ending.returned (Value.string s)) HRR.out, h2.trans (h4.mono h2.size)⟩
      · obtain rfl : m = 0 := by omega
        have hR := HR0.out rfl
        generalize hT0 : strOfNums (dDig n 1) = T0 at *
        have HRR := Lib.hid hR
        clear hR hT0
        go_wp2_with fail
        refine (HD0.out _).mono ?_
        rintro e w2 ⟨rfl, h2⟩
        go_wp2
        go_ret
        exact ⟨congrArg (fun s => Ending.returned (Value.string s)) HRR.out, h2⟩
  · obtain rfl : x = (X : Int) := by omega
    have hsg : (if (X : Int) < 0 then [45] else ([] : List Int)) = [] := if_neg hx0
    rw [hsg]
    clear hX hsg
    go_enter Tryd.func13, Tryd.ntmps13
    go_wp2
    go_loopw [0, 1] (fun a q wr => ∃ (n m : Nat), a = .int .i64 (n : Int) ∧ q = .int .i64 (m : Int) ∧ n ≤ X ∧ m ≤ p ∧ Hid (strip n m = (a0, q0)) ∧ wr = w) (fun _ q _ => (intOf q).toNat)
    case atStart => exact ⟨X, p, rfl, rfl, Nat.le_refl _, Nat.le_refl _, hs, rfl⟩
    case round =>
      obtain ⟨n, m, rfl, rfl, hn, hm, HST, rfl⟩ := hrel
      have HPT := Lib.hid (posT_of hs)
      have hdiv : (n : Int) / ((10 ^ m : Nat) : Int) = ((n / 10 ^ m : Nat) : Int) := (Int.natCast_ediv n (10 ^ m)).symm
      have hmod : (n : Int) % ((10 ^ m : Nat) : Int) = ((n % 10 ^ m : Nat) : Int) := (Int.natCast_emod n (10 ^ m)).symm
      have hpm : 0 < 10 ^ m := Nat.pow_pos (by omega)
      have hpm2 : 10 ^ m ≤ 10 ^ 15 := Nat.pow_le_pow_right (by omega) (by omega)
      have hdle : n / 10 ^ m ≤ n := Nat.div_le_self _ _
      have hmle : n % 10 ^ m ≤ n := Nat.mod_le _ _
      have hpow := dPower_any m (by omega)
      have hdg0 := dDigits_any n 1 (by omega) (by omega)
      have hdg1 := dDigits_any (n / 10 ^ m) 1 (by omega) (by omega)
      have hdg2 := dDigits_any (n % 10 ^ m) m (by omega) (by omega)
      have hz0 := dDig_size (n := n) (W := 1) (by omega) (by omega)
      have hz1 := dDig_size (n := n / 10 ^ m) (W := 1) (by omega) (by omega)
      have hz2 := dDig_size (n := n % 10 ^ m) (W := m) (by omega) (by omega)
      have hres0 : m = 0 → strOfNums ([] : List Int) ++ strOfNums (dDig n 1) = strOfNums (([] : List Int) ++ posT X p) := fun h => by
        obtain ⟨rfl, rfl⟩ := strip_done HST.out (.inl h)
        rw [HPT.out, if_pos h, strOfNums_app]
      have hres1 : m ≠ 0 → n % 10 ≠ 0 → strOfNums ([] : List Int) ++ strOfNums (dDig (n / 10 ^ m) 1) ++ strOfNums [46] ++ strOfNums (dDig (n % 10 ^ m) m) = strOfNums (([] : List Int) ++ posT X p) := fun h h' => by
        obtain ⟨rfl, rfl⟩ := strip_done HST.out (.inr h')
        rw [HPT.out, if_neg h, strOfNums_app, strOfNums_app, strOfNums_app]
        congr 1
        simp
      have hdi := HST.out
      have HR0 := Lib.hid hres0
      have HR1 := Lib.hid hres1
      have HP := Lib.hid hpow
      have HD0 := Lib.hid hdg0
      have HD1 := Lib.hid hdg1
      have HD2 := Lib.hid hdg2
      clear hres0 hres1 hpow hdg0 hdg1 hdg2 hs hdi
      by_cases hm0 : 0 < m
      · by_cases hn0 : n % 10 = 0
        · have hn1 : (n : Int) % 10 = 0 := by omega
          clear hdiv hmod
          go_wp2
          go_roundw
          case rel =>
            refine ⟨n / 10, m - 1, by go_num, by go_num, by omega, by omega, ?_, by first | rfl | trivial⟩
            have h := HST.out
            obtain ⟨m', rfl⟩ : ∃ m', m = m' + 1 := ⟨m - 1, by omega⟩
            unfold strip at h
            rw [if_pos hn0] at h
            exact h
          case measure => simp [intOf]; omega
        · have hn1 : ¬ (n : Int) % 10 = 0 := by omega
          have hR := HR1.out (by omega) hn0
          generalize hT1 : strOfNums (dDig (n / 10 ^ m) 1) = T1 at *
          generalize hT2 : strOfNums (dDig (n % 10 ^ m) m) = T2 at *
          have HRR := Lib.hid hR
          clear hR
          generalize hdq : n / 10 ^ m = dq at *
          generalize hdr : n % 10 ^ m = dr at *
          generalize hpp : 10 ^ m = pp at *
          clear hdq hdr hpp hT1 hT2
          have hppb : ((pp : Int) == 0) = false := by rw [beq_eq_false_iff_ne]; omega
          go_wp2_with fail
          refine (HP.out _).mono ?_
          rintro e w1 ⟨rfl, rfl⟩
          go_wp2_with fail
          refine (HD1.out _).mono ?_
          rintro e w2 ⟨rfl, h2⟩
          go_wp2_with fail
          refine (HP.out _).mono ?_
          rintro e w3 ⟨rfl, rfl⟩
          go_wp2_with fail
          refine (HD2.out _).mono ?_
          rintro e w4 ⟨rfl, h4⟩
          go_wp2
          go_ret
          exact ⟨congrArg (fun s => Ending.returned (Value.string s)) HRR.out, h2.trans (h4.mono h2.size)⟩
      · obtain rfl : m = 0 := by omega
        have hR := HR0.out rfl
        generalize hT0 : strOfNums (dDig n 1) = T0 at *
        have HRR := Lib.hid hR
        clear hR hT0
        go_wp2_with fail
        refine (HD0.out _).mono ?_
        rintro e w2 ⟨rfl, h2⟩
        go_wp2
        go_ret
        exact ⟨congrArg (fun s => Ending.returned (Value.string s)) HRR.out, h2⟩

end Go.Proofs.YtpbcfgehmalppaaDoor
