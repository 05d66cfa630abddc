/- The law FnPointJSONDecimal: whatever the numbers, it returns true and turns nothing that was there. -/
import Derived.Test.YtpbcfgehmalppaaDoorDcF
import Derived.Test.YtpbcfgehmalppaaDoorJsF
import Derived.Test.YtpbcfgehmalppaaDoorWLast
namespace Go.Proofs.YtpbcfgehmalppaaDoor
open Go.RowKit Go.Proofs.YtpbcfgehmalppaaDoorW.PrintLast

theorem dFits_any (x : Int) (h0 : -9223372036854775808 ≤ x) (h1 : x ≤ 9223372036854775807) (w : World) : Calls Tryd.prog 10 #[.int .i64 x] w fun e w' => e = .returned (.bool (decide (-1000000000000000 < x ∧ x < 1000000000000000))) ∧ w' = w := by
  have hp := dPower_any 15 (by omega)
  rw [show ((10 ^ 15 : Nat) : Int) = 1000000000000000 by rfl] at hp
  have HP := Lib.hid hp
  clear hp
  by_cases hc : -1000000000000000 < x
  · by_cases hd : x < 1000000000000000
    · have he : decide (-1000000000000000 < x ∧ x < 1000000000000000) = true := decide_eq_true ⟨hc, hd⟩
      rw [he]
      clear he
      go_enter Tryd.func10, Tryd.ntmps10
      go_wp2_with fail
      refine (HP.out _).mono ?_
      rintro e w1 ⟨rfl, rfl⟩
      go_wp2_with fail
      refine (HP.out _).mono ?_
      rintro e w1 ⟨rfl, rfl⟩
      go_wp2
      go_ret
      exact ⟨rfl, rfl⟩
    · have he : decide (-1000000000000000 < x ∧ x < 1000000000000000) = false := decide_eq_false fun h => hd h.2
      rw [he]
      clear he
      go_enter Tryd.func10, Tryd.ntmps10
      go_wp2_with fail
      refine (HP.out _).mono ?_
      rintro e w1 ⟨rfl, rfl⟩
      go_wp2_with fail
      refine (HP.out _).mono ?_
      rintro e w1 ⟨rfl, rfl⟩
      go_wp2
      go_ret
      exact ⟨congrArg (fun b => Ending.returned (Value.bool b)) (decide_eq_false (by omega)), rfl⟩
  · have he : decide (-1000000000000000 < x ∧ x < 1000000000000000) = false := decide_eq_false fun h => hc h.1
    rw [he]
    clear he
    go_enter Tryd.func10, Tryd.ntmps10
    go_wp2_with fail
    refine (HP.out _).mono ?_
    rintro e w1 ⟨rfl, rfl⟩
    go_wp2
    go_ret
    exact ⟨rfl, rfl⟩

theorem reads_new2 {w : World} {t : TypeId} {a b : Value} : Reads (w.alloc (.cells #[a, b] t)) (w.heap.size + 1) 1 (some ⟨w.heap.size, 0, none⟩) 2 [a, b] := by
  have h := Blk.new w t #[a, b]
  refine ⟨rfl, fun _ => ⟨_, rfl, Nat.lt_succ_self _, fun j u hu => ?_⟩⟩
  have ha : (⟨w.heap.size, 0, none⟩ : Addr).add j = ⟨w.heap.size, j, none⟩ := by unfold Addr.add; split <;> simp_all
  rw [ha, h.cell j]
  simpa using hu
theorem below_bf3 {w w' : World} {v : Value} {bs : List Int} (h : Bf w w' none v bs) : Below w.heap.size w w' := ⟨h.grown.os, h.grown.tape, h.grown.output, h.grown.size, fun i hi => h.grown.block i hi (by simp)⟩
theorem own_kept' {w w' : World} {v : Value} {bs : List Int} (h : Own w v bs) (hb : Below w.heap.size w w') : Own w' v bs := by
  refine World.ownsRow.kept h (only_of_below hb none) ?_
  cases v.ownBlock <;> simp

/-- The text of a point's two numbers, around them what stands there. -/
theorem pointJ_dec (a b : Nat) : (⟨#[123, 34, 116, 121, 112, 101, 34, 58, 34, 80, 111, 105, 110, 116, 34, 44, 34, 99, 111, 111, 114, 100, 105, 110, 97, 116, 101, 115, 34, 58, 91]⟩ : ByteArray) ++ strOfNums (ftoaV hiT loT a) ++ ⟨#[44]⟩ ++ strOfNums (ftoaV hiT loT b) ++ ⟨#[93, 125]⟩ = strOfNums (pointJ hiT loT 0 [a, b]) := by
  have e1 : (⟨#[123, 34, 116, 121, 112, 101, 34, 58, 34, 80, 111, 105, 110, 116, 34, 44, 34, 99, 111, 111, 114, 100, 105, 110, 97, 116, 101, 115, 34, 58, 91]⟩ : ByteArray) = strOfNums (hdrJ ++ [91]) := rfl
  have e2 : (⟨#[44]⟩ : ByteArray) = strOfNums [44] := rfl
  have e3 : (⟨#[93, 125]⟩ : ByteArray) = strOfNums [93, 125] := rfl
  rw [e1, e2, e3, strOfNums_app, strOfNums_app, strOfNums_app, strOfNums_app]
  congr 1
  unfold pointJ coordJ
  simp [wd, ptN]

theorem decT_size (x : Int) (X p : Nat) (hX : x.natAbs = X) (hx : X < 1000000000000000) (hp : p < 16) : (strOfNums ((if x < 0 then [45] else []) ++ posT X p)).size ≤ 50 := by
  rw [strOfNums_size, List.length_append]
  obtain ⟨s1, s2, s3⟩ := strip_spec p X
  have h1 : (strip X p).1 ≤ X := by
    conv => rhs; rw [s1]
    exact Nat.le_mul_of_pos_right _ (Nat.pow_pos (by omega))
  have h0 : (if x < 0 then [45] else ([] : List Int)).length ≤ 1 := by split <;> simp
  have hd : ∀ n W, n ≤ X → W ≤ 15 → (dDig n W).length ≤ 20 := fun n W hn hw => by
    unfold dDig
    rw [dgs_len]
    have := dl_le (show n < 18446744073709551616 by omega)
    omega
  have h2 : (posT X p).length ≤ 41 := by
    unfold posT
    split
    · have := hd (strip X p).1 1 h1 (by omega); omega
    · have a := hd ((strip X p).1 / 10 ^ (strip X p).2) 1 (Nat.le_trans (Nat.div_le_self _ _) h1) (by omega)
      have b := hd ((strip X p).1 % 10 ^ (strip X p).2) (strip X p).2 (Nat.le_trans (Nat.mod_le _ _) h1) (by omega)
      rw [List.length_append, List.length_cons]
      omega
  omega

theorem float_at (a b r : Nat) (h : floatBits .quo .f64 a b = some r) (w : World) : (binOp .quo 22 (.float .f64 a) (.float .f64 b)).run Tryd.prog w = .ok (.float .f64 r) w := run_float_arith w .quo 22 .f64 a b r h

set_option maxHeartbeats 2000000 in
set_option maxRecDepth 100000 in
theorem dlaw_any (x y p : Int) (x0 : -9223372036854775808 ≤ x) (x1 : x ≤ 9223372036854775807) (y0 : -9223372036854775808 ≤ y) (y1 : y ≤ 9223372036854775807) (w : World) (ht : FtTabs w hiT loT) :
    Calls Tryd.prog 4 #[.int .i64 x, .int .i64 y, .int .i64 p] w fun e w' => e = .returned (.bool true) ∧ Below w.heap.size w w' := by
  have hfx := dFits_any x x0 x1
  have hfy := dFits_any y y0 y1
  by_cases hx : -1000000000000000 < x ∧ x < 1000000000000000
  · rw [decide_eq_true hx] at hfx
    have HFX := Lib.hid hfx
    clear hfx
    by_cases hy : -1000000000000000 < y ∧ y < 1000000000000000
    · rw [decide_eq_true hy] at hfy
      have HFY := Lib.hid hfy
      clear hfy
      by_cases hp0 : p < 0
      · go_enter Tryd.func4, Tryd.ntmps4
        go_wp2_with fail
        refine (HFX.out _).mono ?_
        rintro e w1 ⟨rfl, rfl⟩
        go_wp2_with fail
        refine (HFY.out _).mono ?_
        rintro e w1 ⟨rfl, rfl⟩
        go_wp2
        go_ret
        exact ⟨rfl, Below.refl _ _⟩
      · by_cases hp1 : 15 < p
        · go_enter Tryd.func4, Tryd.ntmps4
          go_wp2_with fail
          refine (HFX.out _).mono ?_
          rintro e w1 ⟨rfl, rfl⟩
          go_wp2_with fail
          refine (HFY.out _).mono ?_
          rintro e w1 ⟨rfl, rfl⟩
          go_wp2
          go_ret
          exact ⟨rfl, Below.refl _ _⟩
        · obtain ⟨P, rfl⟩ := Int.eq_ofNat_of_zero_le (show 0 ≤ p by omega)
          obtain ⟨qx, bx, tx⟩ := dec_text x x.natAbs P rfl (by omega) (by omega)
          obtain ⟨qy, b_y, ty⟩ := dec_text y y.natAbs P rfl (by omega) (by omega)
          have gx := float_at _ _ _ qx
          have gy := float_at _ _ _ qy
          have hpw := dPower_any P (by omega)
          have hdx := dText_any x x.natAbs P rfl (by omega) (by omega)
          have hdy := dText_any y y.natAbs P rfl (by omega) (by omega)
          have HTX := Lib.hid tx
          have HTY := Lib.hid ty
          have HP := Lib.hid hpw
          have HDX := Lib.hid hdx
          have HDY := Lib.hid hdy
          have HT := Lib.hid ht
          have HBX := Lib.hid bx
          have HBY := Lib.hid b_y
          clear qx qy tx ty hpw hdx hdy ht bx b_y
          generalize decB x P = bx at *
          generalize decB y P = b_y at *
          generalize ((10 ^ P : Nat) : Int) = u at *
          go_enter Tryd.func4, Tryd.ntmps4
          go_wp2_with fail
          refine (HFX.out _).mono ?_
          rintro e w1 ⟨rfl, rfl⟩
          go_wp2_with fail
          refine (HFY.out _).mono ?_
          rintro e w1 ⟨rfl, rfl⟩
          go_wp2_with fail
          refine (HP.out _).mono ?_
          rintro e w1 ⟨rfl, rfl⟩
          go_wp2_with fail
          have hrd := reads_new2 (w := w1) (t := 22) (a := .float .f64 bx) (b := .float .f64 b_y)
          have hbl1 : Below w1.heap.size w1 (w1.alloc (.cells #[.float .f64 bx, .float .f64 b_y] 22)) := (Below.refl _ w1).alloc (Nat.le_refl _) _
          refine (PointJSON_any (B := w1.heap.size + 1) (K := none) (m := 0) (c := 2) (c' := 0) (ns := [bx, b_y]) 0 hiT loT _ hrd (fun b hb => by
            simp only [List.mem_cons, List.mem_nil_iff, or_false] at hb
            rcases hb with rfl | rfl
            · exact HBX.out
            · exact HBY.out) (by simp) (by omega) (HT.out.below hbl1)).mono ?_
          rintro e w3 ⟨v3, rfl, h3⟩
          have HB3 := Lib.hid (hbl1.trans ((below_bf3 h3).mono (by simp)))
          have ho : Own w3 v3 (pointJ hiT loT 0 [bx, b_y]) := Bf.own_ h3
          have ecv : ∀ W, Below w3.heap.size w3 W → (convert 32 9 v3).run Tryd.prog W = .ok (.string (strOfNums (pointJ hiT loT 0 [bx, b_y]))) W := fun W hW =>
            own_string (P := Tryd.prog) (src := 32) (dst := 9) Tryd.underlying32 Tryd.underlying5 Tryd.underlying9 (own_kept' ho hW)
          have hpj := pointJ_dec bx b_y
          rw [HTX.out, HTY.out] at hpj
          have hzx := decT_size x x.natAbs P rfl (by omega) (by omega)
          have hzy := decT_size y y.natAbs P rfl (by omega) (by omega)
          generalize strOfNums ((if x < 0 then [45] else []) ++ posT x.natAbs P) = TX at *
          generalize strOfNums ((if y < 0 then [45] else []) ++ posT y.natAbs P) = TY at *
          generalize strOfNums (pointJ hiT loT 0 [bx, b_y]) = S at *
          have HCV := Lib.hid ecv
          have HPJ := Lib.hid hpj
          clear ecv hpj ho h3 hrd hbl1 gx gy
          have hs1 : ¬ 9223372036854775807 < 31 + TX.size := by omega
          have hs2 : ¬ 9223372036854775807 < 31 + TX.size + 1 := by omega
          have hs3 : ¬ 9223372036854775807 < 31 + TX.size + 1 + TY.size := by omega
          have hs4 : ¬ 9223372036854775807 < 31 + TX.size + 1 + TY.size + 2 := by omega
          have hb0 : Below w3.heap.size w3 w3.drew := Below.drew (Below.refl _ _)
          have hcv0 := HCV.out _ hb0
          go_wp2_with fail
          refine start_ (n := 17) (S := fun w' => Sem.run Tryd.prog (convert 32 9 v3) w' = Result.ok (Value.string S) w') (ds := []) #[false, false, false, false, false, false, false, false, false, false, false, false, false, false, false, false, false] (by kernel_rfl) rfl rfl (hcv0) (fun hHeld => ?_)
          refine pure_ (i := 0) (N := some 43) (v := ?_) (a' := ?_) #[true, false, false, false, false, false, false, false, false, false, false, false, false, false, false, false, false] rfl rfl (by kernel_rfl) (fun _ _ _ h => h) (Or.inl ⟨by rfl, ?_⟩) ?_ ?_
          rotate_left
          · intro w'
            go_simp
            with_reducible rfl
          rotate_left
          · simp only [Act.put, List.setIfInBounds_toArray, List.set_cons_zero, List.set_cons_succ, i64_w, i32_w]
            rfl
          refine pure_ (i := 1) (N := some 44) (v := ?_) (a' := ?_) #[true, true, false, false, false, false, false, false, false, false, false, false, false, false, false, false, false] rfl rfl (by kernel_rfl) (fun _ _ _ h => h) (Or.inl ⟨by rfl, ?_⟩) ?_ ?_
          rotate_left
          · intro w'
            go_simp
            with_reducible rfl
          rotate_left
          · simp only [Act.put, List.setIfInBounds_toArray, List.set_cons_zero, List.set_cons_succ, i64_w, i32_w]
            rfl
          refine pure_ (i := 2) (N := some 45) (v := ?_) (a' := ?_) #[true, true, true, false, false, false, false, false, false, false, false, false, false, false, false, false, false] rfl rfl (by kernel_rfl) (fun _ _ _ h => h) (Or.inl ⟨by rfl, ?_⟩) ?_ ?_
          rotate_left
          · intro w'
            go_simp
            with_reducible rfl
          rotate_left
          · simp only [Act.put, List.setIfInBounds_toArray, List.set_cons_zero, List.set_cons_succ, i64_w, i32_w]
            rfl
          refine pure_ (i := 4) (N := some 47) (v := ?_) (a' := ?_) #[true, true, true, false, true, false, false, false, false, false, false, false, false, false, false, false, false] rfl rfl (by kernel_rfl) (fun _ _ _ h => h) (Or.inl ⟨by rfl, ?_⟩) ?_ ?_
          rotate_left
          · intro w'
            go_simp
            with_reducible rfl
          rotate_left
          · simp only [Act.put, List.setIfInBounds_toArray, List.set_cons_zero, List.set_cons_succ, i64_w, i32_w]
            rfl
          refine pure_ (i := 5) (N := some 48) (v := ?_) (a' := ?_) #[true, true, true, false, true, true, false, false, false, false, false, false, false, false, false, false, false] rfl rfl (by kernel_rfl) (fun _ _ _ h => h) (Or.inl ⟨by rfl, ?_⟩) ?_ ?_
          rotate_left
          · intro w'
            go_simp
            with_reducible rfl
          rotate_left
          · simp only [Act.put, List.setIfInBounds_toArray, List.set_cons_zero, List.set_cons_succ, i64_w, i32_w]
            rfl
          refine pure_ (i := 9) (N := some 52) (v := ?_) (a' := ?_) #[true, true, true, false, true, true, false, false, false, true, false, false, false, false, false, false, false] rfl rfl (by kernel_rfl) (fun _ _ _ h => h) (Or.inl ⟨by rfl, ?_⟩) ?_ ?_
          rotate_left
          · intro w'
            go_simp
            with_reducible rfl
          rotate_left
          · simp only [Act.put, List.setIfInBounds_toArray, List.set_cons_zero, List.set_cons_succ, i64_w, i32_w]
            rfl
          refine pure_ (i := 10) (N := some 53) (v := ?_) (a' := ?_) #[true, true, true, false, true, true, false, false, false, true, true, false, false, false, false, false, false] rfl rfl (by kernel_rfl) (fun _ _ _ h => h) (Or.inl ⟨by rfl, ?_⟩) ?_ ?_
          rotate_left
          · intro w'
            go_simp
            with_reducible rfl
          rotate_left
          · simp only [Act.put, List.setIfInBounds_toArray, List.set_cons_zero, List.set_cons_succ, i64_w, i32_w]
            rfl
          refine take_ (i := 3) (N := some 46) (v := ?_) (a' := ?_) #[true, true, true, true, true, true, false, false, false, true, true, false, false, false, false, false, false] rfl rfl (by kernel_rfl) (fun _ _ _ h => h) (Or.inl ⟨by rfl, ?_⟩) hHeld ?_ ?_
          rotate_left
          · intro w' s0
            go_simp
            with_reducible rfl
          rotate_left
          · simp only [Act.put, List.setIfInBounds_toArray, List.set_cons_zero, List.set_cons_succ, i64_w, i32_w]
            rfl
          refine one_ (i := 6) (N := some 49) #[true, true, true, true, true, true, true, false, false, true, true, false, false, false, false, false, false] rfl rfl (by kernel_rfl) (by decide) (fun K hK => ?_)
          refine goes_ Tryd.func13 (by kernel_rfl) rfl #[.int .i64 x, .int .i64 (P : Int)] (by rfl) rfl rfl (by simp only [List.map_toArray, List.map_cons, List.map_nil]; rfl) ?_
          with_reducible refine (HDX.out _).mono ?_
          rintro e w4 ⟨rfl, h4⟩
          refine ⟨_, rfl, ?_⟩
          have hb4 := hb0.trans (h4.mono hb0.size)
          refine hK.out _ _ (HCV.out _ hb4) (fun hHeld => ?_)
          clear hK K
          refine norm_ (a' := ?_) ?_ ?_
          rotate_left
          · show Act.put _ (some 49) _ = _
            simp only [Act.put, List.setIfInBounds_toArray, List.set_cons_zero, List.set_cons_succ, i64_w, i32_w]
            rfl
          refine pure_ (i := 7) (N := some 50) (v := ?_) (a' := ?_) #[true, true, true, true, true, true, true, true, false, true, true, false, false, false, false, false, false] rfl rfl (by kernel_rfl) (fun _ _ _ h => h) (Or.inl ⟨by rfl, ?_⟩) ?_ ?_
          rotate_left
          · intro w'
            go_simp
            with_reducible rfl
          rotate_left
          · simp only [Act.put, List.setIfInBounds_toArray, List.set_cons_zero, List.set_cons_succ, i64_w, i32_w]
            rfl
          refine pure_ (i := 8) (N := some 51) (v := ?_) (a' := ?_) #[true, true, true, true, true, true, true, true, true, true, true, false, false, false, false, false, false] rfl rfl (by kernel_rfl) (fun _ _ _ h => h) (Or.inl ⟨by rfl, ?_⟩) ?_ ?_
          rotate_left
          · intro w'
            go_simp
            with_reducible rfl
          rotate_left
          · simp only [Act.put, List.setIfInBounds_toArray, List.set_cons_zero, List.set_cons_succ, i64_w, i32_w]
            rfl
          refine one_ (i := 11) (N := some 54) #[true, true, true, true, true, true, true, true, true, true, true, true, false, false, false, false, false] rfl rfl (by kernel_rfl) (by decide) (fun K hK => ?_)
          refine goes_ Tryd.func13 (by kernel_rfl) rfl #[.int .i64 y, .int .i64 (P : Int)] (by rfl) rfl rfl (by simp only [List.map_toArray, List.map_cons, List.map_nil]; rfl) ?_
          with_reducible refine (HDY.out _).mono ?_
          rintro e w5 ⟨rfl, h5⟩
          refine ⟨_, rfl, ?_⟩
          have hb5 := hb4.trans (h5.mono hb4.size)
          refine hK.out _ _ (HCV.out _ hb5) (fun hHeld => ?_)
          clear hK K
          refine norm_ (a' := ?_) ?_ ?_
          rotate_left
          · show Act.put _ (some 54) _ = _
            simp only [Act.put, List.setIfInBounds_toArray, List.set_cons_zero, List.set_cons_succ, i64_w, i32_w]
            rfl
          refine pure_ (i := 12) (N := some 55) (v := ?_) (a' := ?_) #[true, true, true, true, true, true, true, true, true, true, true, true, true, false, false, false, false] rfl rfl (by kernel_rfl) (fun _ _ _ h => h) (Or.inl ⟨by rfl, ?_⟩) ?_ ?_
          rotate_left
          · intro w'
            go_simp
            with_reducible rfl
          rotate_left
          · simp only [Act.put, List.setIfInBounds_toArray, List.set_cons_zero, List.set_cons_succ, i64_w, i32_w]
            rfl
          refine pure_ (i := 13) (N := some 56) (v := ?_) (a' := ?_) #[true, true, true, true, true, true, true, true, true, true, true, true, true, true, false, false, false] rfl rfl (by kernel_rfl) (fun _ _ _ h => h) (Or.inl ⟨by rfl, ?_⟩) ?_ ?_
          rotate_left
          · intro w'
            go_simp
            with_reducible rfl
          rotate_left
          · simp only [Act.put, List.setIfInBounds_toArray, List.set_cons_zero, List.set_cons_succ, i64_w, i32_w]
            rfl
          refine pure_ (i := 14) (N := some 57) (v := ?_) (a' := ?_) #[true, true, true, true, true, true, true, true, true, true, true, true, true, true, true, false, false] rfl rfl (by kernel_rfl) (fun _ _ _ h => h) (Or.inl ⟨by rfl, ?_⟩) ?_ ?_
          rotate_left
          · intro w'
            go_simp
            with_reducible rfl
          rotate_left
          · simp only [Act.put, List.setIfInBounds_toArray, List.set_cons_zero, List.set_cons_succ, i64_w, i32_w]
            rfl
          refine pure_ (i := 15) (N := some 58) (v := ?_) (a' := ?_) #[true, true, true, true, true, true, true, true, true, true, true, true, true, true, true, true, false] rfl rfl (by kernel_rfl) (fun _ _ _ h => h) (Or.inl ⟨by rfl, ?_⟩) ?_ ?_
          rotate_left
          · intro w'
            go_simp
            with_reducible rfl
          rotate_left
          · simp only [Act.put, List.setIfInBounds_toArray, List.set_cons_zero, List.set_cons_succ, i64_w, i32_w]
            rfl
          refine pure_ (i := 16) (N := some 6) (v := ?_) (a' := ?_) #[true, true, true, true, true, true, true, true, true, true, true, true, true, true, true, true, true] rfl rfl (by kernel_rfl) (fun _ _ _ h => h) (Or.inl ⟨by rfl, ?_⟩) ?_ ?_
          rotate_left
          · intro w'
            go_simp
            with_reducible rfl
          rotate_left
          · simp only [Act.put, List.setIfInBounds_toArray, List.set_cons_zero, List.set_cons_succ, i64_w, i32_w]
            rfl
          refine done_ (by kernel_rfl) ?_
          have HB5 := Lib.hid (HB3.out.trans (hb5.mono HB3.out.size))
          clear hcv0 hb0 hb4 hb5 h4 h5
          go_wp2
          go_ret
          rw [HPJ.out]
          have hq : (S.toList == S.toList) = true := by simp
          exact ⟨by first | rfl | exact congrArg (fun b => Ending.returned (Value.bool b)) hq, HB5.out⟩
    · rw [decide_eq_false hy] at hfy
      have HFY := Lib.hid hfy
      clear hfy
      go_enter Tryd.func4, Tryd.ntmps4
      go_wp2_with fail
      refine (HFX.out _).mono ?_
      rintro e w1 ⟨rfl, rfl⟩
      go_wp2_with fail
      refine (HFY.out _).mono ?_
      rintro e w1 ⟨rfl, rfl⟩
      go_wp2
      go_ret
      exact ⟨rfl, Below.refl _ _⟩
  · rw [decide_eq_false hx] at hfx
    have HFX := Lib.hid hfx
    clear hfx hfy
    go_enter Tryd.func4, Tryd.ntmps4
    go_wp2_with fail
    refine (HFX.out _).mono ?_
    rintro e w1 ⟨rfl, rfl⟩
    go_wp2
    go_ret
    exact ⟨rfl, Below.refl _ _⟩

end Go.Proofs.YtpbcfgehmalppaaDoor
