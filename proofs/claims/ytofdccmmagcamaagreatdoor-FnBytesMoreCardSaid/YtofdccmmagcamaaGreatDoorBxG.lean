import Derived.Test.YtofdccmmagcamaaGreatDoorBxU
import Derived.Test.YtofdccmmagcamaaGreatDoorWLast
/- The reference's writer of bytes: its block, and the bytes of a number. -/
set_option maxHeartbeats 8000000
set_option linter.unusedSimpArgs false
set_option linter.unusedVariables false
namespace Go.Proofs.YtofdccmmagcamaaGreatDoor
open Go.RowKit Go.Proofs.YtofdccmmagcamaaGreatDoorW.PrintLast

attribute [local go_sem] run_store_float

/-- The blocks of K stay as they are. -/
structure Kp (W W' : World) (K : Nat → Prop) : Prop where
  os : W'.os = W.os
  tape : W'.tape = W.tape
  output : W'.output = W.output
  size : W.heap.size ≤ W'.heap.size
  keep : ∀ b, K b → b < W.heap.size → W'.heap[b]? = W.heap[b]?
theorem Kp.refl (W : World) (K : Nat → Prop) : Kp W W K := ⟨rfl, rfl, rfl, Nat.le_refl _, fun _ _ _ => rfl⟩
theorem Kp.trans {W W1 W2 : World} {K : Nat → Prop} (h : Kp W W1 K) (k : Kp W1 W2 K) : Kp W W2 K := ⟨k.os.trans h.os, k.tape.trans h.tape, k.output.trans h.output, Nat.le_trans h.size k.size, fun b hb hl => (k.keep b hb (Nat.lt_of_lt_of_le hl h.size)).trans (h.keep b hb hl)⟩
theorem Kp.of_below {W W1 : World} (h : Below W.heap.size W W1) (K : Nat → Prop) : Kp W W1 K := ⟨h.os, h.tape, h.output, h.size, fun b _ hl => h.block b hl⟩
theorem Kp.less {W W1 : World} {K K' : Nat → Prop} (h : Kp W W1 K) (hk : ∀ b, K' b → K b) : Kp W W1 K' := ⟨h.os, h.tape, h.output, h.size, fun b hb hl => h.keep b (hk b hb) hl⟩
theorem Kp.below {W W1 : World} {K : Nat → Prop} {B : Nat} (h : Kp W W1 K) (hk : ∀ b, b < B → K b) (hB : B ≤ W.heap.size) : Below B W W1 := ⟨h.os, h.tape, h.output, h.size, fun b hb => h.keep b (hk b hb) (by omega)⟩
/-- The writer's block g holds a buffer of bs and the orders O that are left; neither it nor the buffer lies in a block of K. -/
structure Bo (W : World) (g : Nat) (K : Nat → Prop) (bs : List Int) (O : Value) : Prop where
  kg : ¬ K g
  ks : ∀ b, K b → b < W.heap.size
  blk : ∃ v, Blk W g 83 #[v, O] ∧ W.ownsRow 0 5 1 v bs.length (bytesV bs) ∧ v.ownBlock ≠ some g ∧ ∀ b, v.ownBlock = some b → ¬ K b
theorem Bo.lt {W : World} {g : Nat} {K : Nat → Prop} {bs : List Int} {O : Value} (h : Bo W g K bs O) : g < W.heap.size := by
  obtain ⟨v, h1, -⟩ := h.blk
  exact h1.lt
theorem Bo.keep {W W' : World} {g : Nat} {K : Nat → Prop} {bs : List Int} {O : Value} (h : Bo W g K bs O) (hb : Below W.heap.size W W') : Bo W' g K bs O := by
  obtain ⟨v, h1, h2, h3, h4⟩ := h.blk
  exact ⟨h.kg, fun b hk => Nat.lt_of_lt_of_le (h.ks b hk) hb.size, v, h1.below hb h1.lt, own_keep' h2 hb, h3, h4⟩
where
  own_keep' {w w' : World} {base sz n : Nat} {e : TypeId} {v : Value} {xs : List Value} (h : w.ownsRow base e sz v n xs) (hk : Below w.heap.size w w') : w'.ownsRow base e sz v n xs := by
    refine ⟨h.1, ?_⟩
    rcases h.2 with hn | ⟨g, cap, cur, rfl, hb, hgg, rest⟩
    · exact .inl hn
    · exact .inr ⟨g, cap, cur, rfl, hb, (hk.block g (Array.getElem?_eq_some_iff.1 hgg).1).trans hgg, rest⟩
/-- A new block is kept, too. -/
theorem Bo.box {W : World} {g : Nat} {K : Nat → Prop} {bs : List Int} {O : Value} (h : Bo W g K bs O) (o : Obj) : Bo (W.alloc o) g (fun b => K b ∨ b = W.heap.size) bs O := by
  obtain ⟨v, h1, h2, h3, h4⟩ := (h.keep ((Below.refl _ _).alloc (Nat.le_refl _) o)).blk
  have hl := h.lt
  refine ⟨fun e => ?_, fun b e => ?_, v, h1, h2, h3, fun b hb e => ?_⟩
  · rcases e with e | e
    · exact h.kg e
    · omega
  · rw [World.size_alloc]
    rcases e with e | e
    · have := h.ks b e; omega
    · omega
  · rcases e with e | e
    · exact h4 b hb e
    · obtain ⟨u, k1, k2, k3, k4⟩ := h.blk
      have e1 := k1.cell 0
      have e2 := h1.cell 0
      rw [World.cell?_alloc_lt _ _ _ hl] at e2
      rw [e1] at e2
      simp at e2
      subst e2
      have := (k2.lt b hb).2
      omega
theorem Bo.less {W : World} {g : Nat} {K K' : Nat → Prop} {bs : List Int} {O : Value} (h : Bo W g K bs O) (hk : ∀ b, K' b → K b) : Bo W g K' bs O := by
  obtain ⟨v, h1, h2, h3, h4⟩ := h.blk
  exact ⟨fun e => h.kg (hk _ e), fun b e => h.ks b (hk b e), v, h1, h2, h3, fun b hb e => h4 b hb (hk b e)⟩
theorem bo_push {W W0 W1 : World} {g : Nat} {K : Nat → Prop} {v v1 O : Value} {L : List Int} {Y : Int} (kg : ¬ K g) (ks : ∀ b, K b → b < W.heap.size) (x : Blk W g 83 #[v, O]) (hw : Below W.heap.size W W0) (hn : v.ownBlock ≠ some g) (hb : ∀ b, v.ownBlock = some b → ¬ K b)
    (ho : W1.ownsRow 0 5 1 v1 (L.length + 1) (bytesV L ++ [.int .u8 Y])) (hg : W0.grownBy W1 v.ownBlock) (hp : v1.ownBlock = v.ownBlock ∨ v1.ownBlock = some W0.heap.size) : Bo (W1.setCell ⟨g, 0, none⟩ v1) g K (L ++ [Y]) O ∧ Kp W (W1.setCell ⟨g, 0, none⟩ v1) K := by
  have hl := x.lt
  have hs := hw.size
  have hs1 := hg.size
  have hx := ((x.below hw hl).grown hg hn.symm).set_ 0 v1
  have hn1 : v1.ownBlock ≠ some g := by
    rcases hp with e | e <;> rw [e]
    · exact hn
    · intro e; injection e with e; omega
  have hb1 : ∀ b, v1.ownBlock = some b → ¬ K b := fun b e => by
    rcases hp with e1 | e1 <;> rw [e1] at e
    · exact hb b e
    · injection e with e
      intro k
      have := ks b k
      omega
  have hsz : (W1.setCell ⟨g, 0, none⟩ v1).heap.size = W1.heap.size := by simp [World.setCell]
  refine ⟨⟨kg, fun b k => by rw [hsz]; have := ks b k; omega, v1, by simpa using hx, ?_, hn1, hb1⟩, ?_⟩
  · rw [bytesV_append, List.length_append]
    refine ⟨ho.1, ?_⟩
    rcases ho.2 with hz | ⟨g', cap, cur, rfl, hb', hgg, rest⟩
    · exact .inl hz
    · refine .inr ⟨g', cap, cur, rfl, hb', ?_, rest⟩
      rw [Below.heap_setCell _ _ _ g' (by show g' ≠ g; intro e; subst e; exact hn1 rfl)]
      exact hgg
  · refine ⟨hg.os.trans hw.os, hg.tape.trans hw.tape, hg.output.trans hw.output, by rw [hsz]; omega, fun b k hlb => ?_⟩
    rw [Below.heap_setCell _ _ _ b (by show b ≠ g; intro e; subst e; exact kg k)]
    exact (hg.block b (by omega) (fun e => hb b e.symm k)).trans (hw.block b hlb)
theorem own_sl {w : World} {b sz n : Nat} {e : TypeId} {v : Value} {xs : List Value} (h : w.ownsRow b e sz v n xs) : ∃ A m c, v = .slice A m c := by
  rcases h.2 with ⟨rfl, rfl⟩ | ⟨g, cap, cur, rfl, _⟩
  · exact ⟨_, _, _, rfl⟩
  · exact ⟨_, _, _, rfl⟩
theorem reads_one {w : World} {t g : Nat} {a : Value} (hg : g = w.heap.size) : Reads (w.alloc (.cells #[a] t)) (w.heap.size + 1) 1 (some ⟨g, 0, none⟩) 1 [a] := by
  subst hg
  have h := Blk.new w t #[a]
  refine ⟨rfl, fun _ => ⟨_, rfl, Nat.lt_succ_self _, fun j u hu => ?_⟩⟩
  have ha : (⟨w.heap.size, 0, none⟩ : Addr).add j = ⟨w.heap.size, j, none⟩ := by unfold Addr.add; split <;> simp_all
  rw [ha, h.cell j]
  simpa using hu
theorem uB_getB (big : Bool) (n x k : Nat) (h : k < n) : (uB big n x)[k]? = some ((x / 256 ^ (if big then n - 1 - k else k) % 256 : Nat) : Int) := by
  cases big
  · exact uB_get n x k h
  · rw [uB_turn, List.getElem?_reverse (by rw [uB_length]; exact h), uB_length]
    exact uB_get n x (n - 1 - k) (by omega)
theorem byte_at (x j : Nat) : IntKind.u8.wrap ((x : Int) / 2 ^ (8 * (j : Int)).toNat) = ((x / 256 ^ j % 256 : Nat) : Int) := by
  have e : (8 * (j : Int)).toNat = 8 * j := by omega
  have e2 : (256 : Nat) ^ j = 2 ^ (8 * j) := by rw [Nat.pow_mul]
  rw [IntKind.wrap_u8, e, e2]
  rw [Int.natCast_emod, Int.natCast_ediv, Int.natCast_pow]
  rfl

set_option maxRecDepth 100000 in
theorem uint_any {W : World} {g : Nat} {K : Nat → Prop} {bs : List Int} {O : Value} (big : Bool) (n x : Nat) (hx : x < 18446744073709551616) (hn : n ≤ 8) (h : Bo W g K bs O) (hl : bs.length ≤ 100000000) :
    Calls Tryz.prog 111 #[.pointer (some ⟨g, 0, none⟩), .int .u64 x, .int .i64 n, .bool big] W fun e w' => e = .returned (.tuple #[]) ∧ Bo w' g K (bs ++ uB big n x) O ∧ Kp W w' K := by
  obtain ⟨i0, hi0, hz0, hz1, hz2⟩ := info_parts info_u8
  have H := Hd h
  have HU := Hd (uB_getB big n x)
  have HLN := Hd (uB_length big n x)
  clear h
  go_enter Tryz.func111, Tryz.ntmps111
  go_wp2
  go_loopw [10] (fun i wr => ∃ k : Nat, k ≤ n ∧ i = .int .i64 k ∧ Bo wr g K (bs ++ (uB big n x).take k) O ∧ Kp W wr K) (fun i _ => n - (intOf i).toNat)
  case atStart => exact ⟨0, Nat.zero_le _, rfl, by simpa using H.out, Kp.refl _ _⟩
  case round =>
    obtain ⟨k, hk, rfl, h1, kp⟩ := hrel
    have HKP := Hd kp
    clear kp
    by_cases hlt : k < n
    · have hq := HU.out k hlt
      have htk : (uB big n x).take (k + 1) = (uB big n x).take k ++ [((x / 256 ^ (if big then n - 1 - k else k) % 256 : Nat) : Int)] := by rw [List.take_add_one, hq]; rfl
      have htl : ((uB big n x).take k).length ≤ 8 := by rw [List.length_take]; omega
      generalize (uB big n x).take k = tk at *
      have HT := Hd htk
      clear hq htk
      have hLl : (bs ++ tk).length ≤ 100000008 := by rw [List.length_append]; omega
      have HLA := Hd (List.append_assoc bs tk)
      generalize hL : bs ++ tk = L at *
      clear hL
      obtain ⟨v, x1, o1, vn, vb⟩ := h1.blk
      have HB := Hd h1.kg
      have HG := Hd h1.ks
      have X1 := Hd x1
      have H1 := Hd (show Bf wr wr v.ownBlock v L from Bf.start o1)
      have hVN := vn
      have hVB := vb
      have c0 := x1.cell 0
      simp at c0
      clear h1 x1 o1 vn vb
      cases big
      · skip
        have hby := byte_at x k
        have hw8 : IntKind.i64.wrap (8 * (k : Int)) = 8 * (k : Int) := by rw [IntKind.wrap_i64]; omega
        have hs0 : 0 ≤ 8 * (k : Int) := by omega
        have hs1 : 8 * (k : Int) ≤ 64 := by omega
        obtain ⟨Y, hY⟩ : ∃ Y, Y = ((x / 256 ^ k % 256 : Nat) : Int) := ⟨_, rfl⟩
        have HY := Hd hY
        rw [← hY] at hby
        clear hY
        go_wp2
        refine start_ (n := 15) (S := fun w' => w'.cell? ⟨g, 0, none⟩ = some v) (ds := [11, 14]) #[false, false, false, false, false, false, false, false, false, false, false, false, false, false, false] (by kernel_rfl) rfl rfl ((X1.out.cell 0).trans rfl) (fun hHeld => ?_)
        refine pure_ (i := 0) (N := some 18) (v := ?_) (a' := ?_) #[true, false, false, false, false, false, false, false, false, false, false, false, false, false, false] rfl rfl (by kernel_rfl) (fun _ _ _ h => h) (Or.inl ⟨by rfl, ?_⟩) ?_ ?_
        rotate_left; (· intro w'; go_simp; with_reducible rfl); rotate_left; (· simp only [Act.put, sA, sB, sC]; rfl)
        refine pure_ (i := 1) (N := some 19) (v := ?_) (a' := ?_) #[true, true, false, false, false, false, false, false, false, false, false, false, false, false, false] rfl rfl (by kernel_rfl) (fun _ _ _ h => h) (Or.inl ⟨by rfl, ?_⟩) ?_ ?_
        rotate_left; (· intro w'; go_simp; with_reducible rfl); rotate_left; (· simp only [Act.put, sA, sB, sC]; rfl)
        refine pure_ (i := 2) (N := some 20) (v := ?_) (a' := ?_) #[true, true, true, false, false, false, false, false, false, false, false, false, false, false, false] rfl rfl (by kernel_rfl) (fun _ _ _ h => h) (Or.inl ⟨by rfl, ?_⟩) ?_ ?_
        rotate_left; (· intro w'; go_simp; with_reducible rfl); rotate_left; (· simp only [Act.put, sA, sB, sC]; rfl)
        refine pure_ (i := 3) (N := some 21) (v := ?_) (a' := ?_) #[true, true, true, true, false, false, false, false, false, false, false, false, false, false, false] rfl rfl (by kernel_rfl) (fun _ _ _ h => h) (Or.inl ⟨by rfl, ?_⟩) ?_ ?_
        rotate_left; (· intro w'; go_simp; with_reducible rfl); rotate_left; (· simp only [Act.put, sA, sB, sC]; rfl)
        refine pure_ (i := 5) (N := some 23) (v := ?_) (a' := ?_) #[true, true, true, true, false, true, false, false, false, false, false, false, false, false, false] rfl rfl (by kernel_rfl) (fun _ _ _ h => h) (Or.inl ⟨by rfl, ?_⟩) ?_ ?_
        rotate_left; (· intro w'; go_simp; with_reducible rfl); rotate_left; (· simp only [Act.put, sA, sB, sC]; rfl)
        refine pure_ (i := 6) (N := some 24) (v := ?_) (a' := ?_) #[true, true, true, true, false, true, true, false, false, false, false, false, false, false, false] rfl rfl (by kernel_rfl) (fun _ _ _ h => h) (Or.inl ⟨by rfl, ?_⟩) ?_ ?_
        rotate_left; (· intro w'; go_simp; with_reducible rfl); rotate_left; (· simp only [Act.put, sA, sB, sC]; rfl)
        refine pure_ (i := 7) (N := some 25) (v := ?_) (a' := ?_) #[true, true, true, true, false, true, true, true, false, false, false, false, false, false, false] rfl rfl (by kernel_rfl) (fun _ _ _ h => h) (Or.inl ⟨by rfl, ?_⟩) ?_ ?_
        rotate_left; (· intro w'; go_simp; with_reducible rfl); rotate_left; (· simp only [Act.put, sA, sB, sC]; rfl)
        refine pure_ (i := 8) (N := some 26) (v := ?_) (a' := ?_) #[true, true, true, true, false, true, true, true, true, false, false, false, false, false, false] rfl rfl (by kernel_rfl) (fun _ _ _ h => h) (Or.inl ⟨by rfl, ?_⟩) ?_ ?_
        rotate_left; (· intro w'; go_simp; with_reducible rfl); rotate_left; (· simp only [Act.put, sA, sB, sC]; rfl)
        refine pure_ (i := 9) (N := some 27) (v := ?_) (a' := ?_) #[true, true, true, true, false, true, true, true, true, true, false, false, false, false, false] rfl rfl (by kernel_rfl) (fun _ _ _ h => h) (Or.inl ⟨by rfl, ?_⟩) ?_ ?_
        rotate_left; (· intro w'; go_simp; with_reducible rfl); rotate_left; (· simp only [Act.put, sA, sB, sC]; rfl)
        refine take_ (i := 4) (N := some 22) (v := ?_) (a' := ?_) #[true, true, true, true, true, true, true, true, true, true, false, false, false, false, false] rfl rfl (by kernel_rfl) (fun _ _ _ h => h) (Or.inl ⟨by rfl, ?_⟩) hHeld ?_ ?_
        rotate_left
        · intro w' s0
          go_simp
          with_reducible rfl
        rotate_left
        · simp only [Act.put, sA, sB, sC]
          rfl
        refine one_ (i := 10) (N := some 28) #[true, true, true, true, true, true, true, true, true, true, true, false, false, false, false] rfl rfl (by kernel_rfl) (by decide) (fun K hK => ?_)
        refine value_ (w1 := ?_) (v := ?_) (by rfl) rfl ?_ ?_
        rotate_left 2
        · go_simp
          constructor
          · rfl
          · rfl
        have X2 := Hd (X1.out.alloc (.cells #[.int .u8 Y] 5))
        refine hK.out _ _ ((X2.out.cell 0).trans rfl) (fun hHeld => ?_)
        clear hK K
        refine norm_ (a' := ?_) ?_ ?_
        rotate_left
        · show Act.put _ (some 28) _ = _
          simp only [Act.put, sA, sB, sC]
          rfl
        refine last_ (i := 11) (N := some 29) #[true, true, true, true, true, true, true, true, true, true, true, true, false, false, false] rfl rfl (by kernel_rfl) (by decide) (fun K hK => ?_)
        refine step_append_any _ rfl _ _ _ rfl 0 5 i0 (.int .u8 0) 1 1 Tryz.underlying28 hi0 hz0 hz1 hz2 rfl (by decide) _ L.length (bytesV L) rfl (H1.out.own.alloc _) _ _ 1 _ [.int .u8 Y] rfl (by exact (reads_one rfl : Reads (wr.alloc _) _ _ _ _ _).drew) (by simp [Value.oneCell']) (by simp only [maxLen]; omega) (by omega) (Nat.zero_le _) ?_
        intro v1 W1 ho hg hp
        have HBO := Hd (bo_push HB.out HG.out X1.out (Below.drew ((Below.refl wr.heap.size wr).alloc (Nat.le_refl _) _)) hVN hVB ho hg hp)
        have XW := Hd (X2.out.drew.grown hg hVN.symm)
        obtain ⟨Av, nv, cv, rfl⟩ := own_sl ho
        clear ho hg hp
        refine hK.out _ _ ?_
        clear hK K
        refine norm_ (a' := ?_) ?_ ?_
        rotate_left
        · show Act.put _ (some 29) _ = _
          simp only [Act.put, sA, sB, sC]
          rfl
        refine pure_ (i := 12) (N := some 30) (v := ?_) (a' := ?_) #[true, true, true, true, true, true, true, true, true, true, true, true, true, false, false] rfl rfl (by kernel_rfl) (fun _ _ _ h => h) (Or.inl ⟨by rfl, ?_⟩) ?_ ?_
        rotate_left; (· intro w'; go_simp; with_reducible rfl); rotate_left; (· simp only [Act.put, sA, sB, sC]; rfl)
        refine pure_ (i := 13) (N := some 31) (v := ?_) (a' := ?_) #[true, true, true, true, true, true, true, true, true, true, true, true, true, true, false] rfl rfl (by kernel_rfl) (fun _ _ _ h => h) (Or.inl ⟨by rfl, ?_⟩) ?_ ?_
        rotate_left; (· intro w'; go_simp; with_reducible rfl); rotate_left; (· simp only [Act.put, sA, sB, sC]; rfl)
        refine last_ (i := 14) (N := none) #[true, true, true, true, true, true, true, true, true, true, true, true, true, true, true] rfl rfl (by kernel_rfl) (by decide) (fun K hK => ?_)
        have z3 : W1.frozen? ⟨g, 0, none⟩ = false := XW.out.frozen 0
        have z4 : W1.cell? ⟨g, 0, none⟩ = some v := (XW.out.cell 0).trans rfl
        refine skip_ (w1 := ?_) (by rfl) rfl ?_ ?_
        rotate_left
        · go_simp
          rfl
        refine hK.out _ _ ?_
        clear hK K
        refine done_ (by kernel_rfl) ?_
        go_wp2
        go_roundw
        case rel =>
          refine ⟨k + 1, by omega, by go_num, ?_⟩
          have e := HT.out
          simp only [if_neg, if_pos, Bool.false_eq_true, if_false, if_true] at e
          rw [e, ← HY.out, ← HLA.out]
          exact ⟨HBO.out.1, HKP.out.trans HBO.out.2⟩
        case measure => simp [intOf]; omega
      · obtain ⟨j, hj, hjn, hjj⟩ : ∃ j : Nat, j = n - 1 - k ∧ j < 8 ∧ (n : Int) - 1 - (k : Int) = (j : Int) := ⟨n - 1 - k, rfl, by omega, by omega⟩
        have HJ := Hd hj
        clear hj
        have hby := byte_at x j
        have hw8 : IntKind.i64.wrap (8 * (j : Int)) = 8 * (j : Int) := by rw [IntKind.wrap_i64]; omega
        have hs0 : 0 ≤ 8 * (j : Int) := by omega
        have hs1 : 8 * (j : Int) ≤ 64 := by omega
        obtain ⟨Y, hY⟩ : ∃ Y, Y = ((x / 256 ^ j % 256 : Nat) : Int) := ⟨_, rfl⟩
        have HY := Hd hY
        rw [← hY] at hby
        clear hY
        go_wp2
        refine start_ (n := 15) (S := fun w' => w'.cell? ⟨g, 0, none⟩ = some v) (ds := [11, 14]) #[false, false, false, false, false, false, false, false, false, false, false, false, false, false, false] (by kernel_rfl) rfl rfl ((X1.out.cell 0).trans rfl) (fun hHeld => ?_)
        refine pure_ (i := 0) (N := some 18) (v := ?_) (a' := ?_) #[true, false, false, false, false, false, false, false, false, false, false, false, false, false, false] rfl rfl (by kernel_rfl) (fun _ _ _ h => h) (Or.inl ⟨by rfl, ?_⟩) ?_ ?_
        rotate_left; (· intro w'; go_simp; with_reducible rfl); rotate_left; (· simp only [Act.put, sA, sB, sC]; rfl)
        refine pure_ (i := 1) (N := some 19) (v := ?_) (a' := ?_) #[true, true, false, false, false, false, false, false, false, false, false, false, false, false, false] rfl rfl (by kernel_rfl) (fun _ _ _ h => h) (Or.inl ⟨by rfl, ?_⟩) ?_ ?_
        rotate_left; (· intro w'; go_simp; with_reducible rfl); rotate_left; (· simp only [Act.put, sA, sB, sC]; rfl)
        refine pure_ (i := 2) (N := some 20) (v := ?_) (a' := ?_) #[true, true, true, false, false, false, false, false, false, false, false, false, false, false, false] rfl rfl (by kernel_rfl) (fun _ _ _ h => h) (Or.inl ⟨by rfl, ?_⟩) ?_ ?_
        rotate_left; (· intro w'; go_simp; with_reducible rfl); rotate_left; (· simp only [Act.put, sA, sB, sC]; rfl)
        refine pure_ (i := 3) (N := some 21) (v := ?_) (a' := ?_) #[true, true, true, true, false, false, false, false, false, false, false, false, false, false, false] rfl rfl (by kernel_rfl) (fun _ _ _ h => h) (Or.inl ⟨by rfl, ?_⟩) ?_ ?_
        rotate_left; (· intro w'; go_simp; with_reducible rfl); rotate_left; (· simp only [Act.put, sA, sB, sC]; rfl)
        refine pure_ (i := 5) (N := some 23) (v := ?_) (a' := ?_) #[true, true, true, true, false, true, false, false, false, false, false, false, false, false, false] rfl rfl (by kernel_rfl) (fun _ _ _ h => h) (Or.inl ⟨by rfl, ?_⟩) ?_ ?_
        rotate_left; (· intro w'; go_simp; with_reducible rfl); rotate_left; (· simp only [Act.put, sA, sB, sC]; rfl)
        refine pure_ (i := 6) (N := some 24) (v := ?_) (a' := ?_) #[true, true, true, true, false, true, true, false, false, false, false, false, false, false, false] rfl rfl (by kernel_rfl) (fun _ _ _ h => h) (Or.inl ⟨by rfl, ?_⟩) ?_ ?_
        rotate_left; (· intro w'; go_simp; with_reducible rfl); rotate_left; (· simp only [Act.put, sA, sB, sC]; rfl)
        refine pure_ (i := 7) (N := some 25) (v := ?_) (a' := ?_) #[true, true, true, true, false, true, true, true, false, false, false, false, false, false, false] rfl rfl (by kernel_rfl) (fun _ _ _ h => h) (Or.inl ⟨by rfl, ?_⟩) ?_ ?_
        rotate_left; (· intro w'; go_simp; with_reducible rfl); rotate_left; (· simp only [Act.put, sA, sB, sC]; rfl)
        refine pure_ (i := 8) (N := some 26) (v := ?_) (a' := ?_) #[true, true, true, true, false, true, true, true, true, false, false, false, false, false, false] rfl rfl (by kernel_rfl) (fun _ _ _ h => h) (Or.inl ⟨by rfl, ?_⟩) ?_ ?_
        rotate_left; (· intro w'; go_simp; with_reducible rfl); rotate_left; (· simp only [Act.put, sA, sB, sC]; rfl)
        refine pure_ (i := 9) (N := some 27) (v := ?_) (a' := ?_) #[true, true, true, true, false, true, true, true, true, true, false, false, false, false, false] rfl rfl (by kernel_rfl) (fun _ _ _ h => h) (Or.inl ⟨by rfl, ?_⟩) ?_ ?_
        rotate_left; (· intro w'; go_simp; with_reducible rfl); rotate_left; (· simp only [Act.put, sA, sB, sC]; rfl)
        refine take_ (i := 4) (N := some 22) (v := ?_) (a' := ?_) #[true, true, true, true, true, true, true, true, true, true, false, false, false, false, false] rfl rfl (by kernel_rfl) (fun _ _ _ h => h) (Or.inl ⟨by rfl, ?_⟩) hHeld ?_ ?_
        rotate_left
        · intro w' s0
          go_simp
          with_reducible rfl
        rotate_left
        · simp only [Act.put, sA, sB, sC]
          rfl
        refine one_ (i := 10) (N := some 28) #[true, true, true, true, true, true, true, true, true, true, true, false, false, false, false] rfl rfl (by kernel_rfl) (by decide) (fun K hK => ?_)
        refine value_ (w1 := ?_) (v := ?_) (by rfl) rfl ?_ ?_
        rotate_left 2
        · go_simp
          constructor
          · rfl
          · rfl
        have X2 := Hd (X1.out.alloc (.cells #[.int .u8 Y] 5))
        refine hK.out _ _ ((X2.out.cell 0).trans rfl) (fun hHeld => ?_)
        clear hK K
        refine norm_ (a' := ?_) ?_ ?_
        rotate_left
        · show Act.put _ (some 28) _ = _
          simp only [Act.put, sA, sB, sC]
          rfl
        refine last_ (i := 11) (N := some 29) #[true, true, true, true, true, true, true, true, true, true, true, true, false, false, false] rfl rfl (by kernel_rfl) (by decide) (fun K hK => ?_)
        refine step_append_any _ rfl _ _ _ rfl 0 5 i0 (.int .u8 0) 1 1 Tryz.underlying28 hi0 hz0 hz1 hz2 rfl (by decide) _ L.length (bytesV L) rfl (H1.out.own.alloc _) _ _ 1 _ [.int .u8 Y] rfl (by exact (reads_one rfl : Reads (wr.alloc _) _ _ _ _ _).drew) (by simp [Value.oneCell']) (by simp only [maxLen]; omega) (by omega) (Nat.zero_le _) ?_
        intro v1 W1 ho hg hp
        have HBO := Hd (bo_push HB.out HG.out X1.out (Below.drew ((Below.refl wr.heap.size wr).alloc (Nat.le_refl _) _)) hVN hVB ho hg hp)
        have XW := Hd (X2.out.drew.grown hg hVN.symm)
        obtain ⟨Av, nv, cv, rfl⟩ := own_sl ho
        clear ho hg hp
        refine hK.out _ _ ?_
        clear hK K
        refine norm_ (a' := ?_) ?_ ?_
        rotate_left
        · show Act.put _ (some 29) _ = _
          simp only [Act.put, sA, sB, sC]
          rfl
        refine pure_ (i := 12) (N := some 30) (v := ?_) (a' := ?_) #[true, true, true, true, true, true, true, true, true, true, true, true, true, false, false] rfl rfl (by kernel_rfl) (fun _ _ _ h => h) (Or.inl ⟨by rfl, ?_⟩) ?_ ?_
        rotate_left; (· intro w'; go_simp; with_reducible rfl); rotate_left; (· simp only [Act.put, sA, sB, sC]; rfl)
        refine pure_ (i := 13) (N := some 31) (v := ?_) (a' := ?_) #[true, true, true, true, true, true, true, true, true, true, true, true, true, true, false] rfl rfl (by kernel_rfl) (fun _ _ _ h => h) (Or.inl ⟨by rfl, ?_⟩) ?_ ?_
        rotate_left; (· intro w'; go_simp; with_reducible rfl); rotate_left; (· simp only [Act.put, sA, sB, sC]; rfl)
        refine last_ (i := 14) (N := none) #[true, true, true, true, true, true, true, true, true, true, true, true, true, true, true] rfl rfl (by kernel_rfl) (by decide) (fun K hK => ?_)
        have z3 : W1.frozen? ⟨g, 0, none⟩ = false := XW.out.frozen 0
        have z4 : W1.cell? ⟨g, 0, none⟩ = some v := (XW.out.cell 0).trans rfl
        refine skip_ (w1 := ?_) (by rfl) rfl ?_ ?_
        rotate_left
        · go_simp
          rfl
        refine hK.out _ _ ?_
        clear hK K
        refine done_ (by kernel_rfl) ?_
        go_wp2
        go_roundw
        case rel =>
          refine ⟨k + 1, by omega, by go_num, ?_⟩
          have e := HT.out
          simp only [if_neg, if_pos, Bool.false_eq_true, if_false, if_true] at e
          rw [← HJ.out] at e
          rw [e, ← HY.out, ← HLA.out]
          exact ⟨HBO.out.1, HKP.out.trans HBO.out.2⟩
        case measure => simp [intOf]; omega
    · obtain rfl : n = k := by omega
      rw [List.take_of_length_le (by rw [HLN.out]; exact Nat.le_refl _)] at h1
      have H1 := Hd h1
      clear h1
      go_wp2
      go_end0
      exact ⟨rfl, H1.out, HKP.out⟩

theorem uint_four {W : World} {g : Nat} {K : Nat → Prop} {bs : List Int} {O : Value} (big : Bool) (x : Nat) (hx : x < 18446744073709551616) (h : Bo W g K bs O) (hl : bs.length ≤ 100000000) :
    Calls Tryz.prog 111 #[.pointer (some ⟨g, 0, none⟩), .int .u64 x, .int .i64 4, .bool big] W fun e w' => e = .returned (.tuple #[]) ∧ Bo w' g K (bs ++ uB big 4 x) O ∧ Kp W w' K := uint_any big 4 x hx (by decide) h hl
theorem uint_eight {W : World} {g : Nat} {K : Nat → Prop} {bs : List Int} {O : Value} (big : Bool) (x : Nat) (hx : x < 18446744073709551616) (h : Bo W g K bs O) (hl : bs.length ≤ 100000000) :
    Calls Tryz.prog 111 #[.pointer (some ⟨g, 0, none⟩), .int .u64 x, .int .i64 8, .bool big] W fun e w' => e = .returned (.tuple #[]) ∧ Bo w' g K (bs ++ uB big 8 x) O ∧ Kp W w' K := uint_any big 8 x hx (by decide) h hl
end Go.Proofs.YtofdccmmagcamaaGreatDoor
