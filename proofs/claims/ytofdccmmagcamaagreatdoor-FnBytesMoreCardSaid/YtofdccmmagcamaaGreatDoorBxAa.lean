import Derived.Test.YtofdccmmagcamaaGreatDoorBxX
import Derived.Test.YtofdccmmagcamaaGreatDoorMhC
/- The thin package's plain data of lines. -/
set_option maxHeartbeats 8000000
set_option linter.unusedSimpArgs false
set_option linter.unusedVariables false
namespace Go.Proofs.YtofdccmmagcamaaGreatDoor
open Go.RowKit

attribute [local go_sem] run_store_float

set_option maxRecDepth 100000 in
theorem plainSeq_0 {A : Option Addr} {n c : Nat} {ns : List Nat} (W : World) (hn : ns.length = n) (hm : n % wd 0 = 0) (hs : n ≤ 1000000) (hb : ∀ b ∈ ns, b < 18446744073709551616) (hA : 0 < n → ∃ g, A = some ⟨g, 0, none⟩ ∧ Blk W g 73 (flV ns).toArray) :
    Calls Tryz.prog 155 #[.agg #[.int .u8 0, .slice A n c]] W fun e w' => ∃ cs, e = .returned (.agg cs.toArray) ∧ GmOn w' (fun b => W.heap.size ≤ b) cs (.mk 2 0 ns []) ∧ Below W.heap.size W w' := by
  obtain ⟨i0, hi0, hz0, hz1, hz2⟩ := info_parts info_f64
  have HSAME : Hid (plsNums 0 (ptsN 0 ns (n / wd 0)) = ns) := Hd (by
    have h := forceS_same 0 (by omega) (by omega) ns (by rw [hn]; exact hm)
    unfold forceS at h
    rwa [hn] at h)
  have hwp : 2 ≤ wd 0 ∧ wd 0 ≤ 4 := by decide
  have hle : n / wd 0 ≤ n := Nat.div_le_self _ _
  have hdm := Nat.div_mul_le_self n (wd 0)
  have hwd0 : 0 < wd 0 := by omega
  have b2 : Below W.heap.size W ((W.alloc (.cells #[.int .u8 0, .slice A n c] 87)).alloc (.cells #[.int .i64 0, .int .i64 0, .slice none 0 0, .slice none 0 0] 25)) := ((Below.refl _ _).alloc (Nat.le_refl _) _).alloc (by simp) _
  have p2 := (Blk.new W 87 #[.int .u8 0, .slice A n c]).alloc (.cells #[.int .i64 0, .int .i64 0, .slice none 0 0, .slice none 0 0] 25)
  have r2 := Blk.new (W.alloc (.cells #[.int .u8 0, .slice A n c] 87)) 25 #[.int .i64 0, .int .i64 0, .slice none 0 0, .slice none 0 0]
  rw [World.size_alloc] at r2
  have B2 := Hd b2
  have P2 := Hd p2
  have R2 := Hd r2
  have HN := Hd hn
  have HBB := Hd hb
  have HA := Hd hA
  have HGET : Hid (∀ (w : World) (g k : Nat), Blk w g 73 (flV ns).toArray → k < n / wd 0 → Calls Tryz.prog 125 #[.agg #[.int .u8 0, .slice (some ⟨g, 0, none⟩) n c], .int .i64 k] w fun e w' => e = .returned (.agg #[.float .f64 (ptN 0 ns k).1, .float .f64 (ptN 0 ns k).2.1, .float .f64 (ptN 0 ns k).2.2.1, .float .f64 (ptN 0 ns k).2.2.2, .int .u8 0]) ∧ Below w.heap.size w w') := Hd (fun w g k h hk => Get_any 0 (by omega) (by omega) g k n c ns w h hn (Nat.le_trans (Nat.mul_le_mul_right _ hk) hdm) (by omega))
  have HLEN := Hd (fun w : World => Length_any 0 (by omega) (by omega) A n c (by omega) w)
  clear b2 p2 r2 hn hb hA hm hdm
  have HPLEN : Hid (∀ k, k ≤ n / wd 0 → (plsNums 0 (ptsN 0 ns k)).length ≤ 4 * k) := Hd (fun k _ => by have h := plsNums_len 0 (ptsN 0 ns k); rwa [ptsN_length] at h)
  generalize n / wd 0 = L at *
  go_enter Tryz.func155, Tryz.ntmps155
  go_wp2_with fail
  refine (SeqCType_any 0 A n c _).mono ?_
  rintro e w3 ⟨rfl, b3⟩
  have s3 : W.heap.size + 2 ≤ w3.heap.size := by have := b3.size; simpa using this
  have B3 := Hd ((B2.out.trans (b3.mono B2.out.size)).alloc (by omega) (.cells #[.int .i64 2, .int .i64 0, .slice none 0 0, .slice none 0 0] 25))
  have P3 := Hd ((P2.out.below b3 P2.out.lt).alloc (.cells #[.int .i64 2, .int .i64 0, .slice none 0 0, .slice none 0 0] 25))
  have R3 := Hd ((R2.out.below b3 R2.out.lt).alloc (.cells #[.int .i64 2, .int .i64 0, .slice none 0 0, .slice none 0 0] 25))
  have T3 := Hd (Blk.new w3 25 #[.int .i64 2, .int .i64 0, .slice none 0 0, .slice none 0 0])
  have hsa : w3.heap.size < (w3.alloc (.cells #[.int .i64 2, .int .i64 0, .slice none 0 0, .slice none 0 0] 25)).heap.size := by rw [World.size_alloc]; omega
  clear b3 P2 R2 B2
  go_upto_region 2 with fail
  generalize w3.alloc (.cells #[.int .i64 2, .int .i64 0, .slice none 0 0, .slice none 0 0] 25) = w4 at *
  generalize w3.heap.size = T at *
  go_wp2_with fail
  go_loopw [4] (fun i wr => ∃ (k : Nat) (VA : Option Addr) (vn vc : Nat), k ≤ L ∧ i = .int .i64 k ∧ Blk wr T 25 #[.int .i64 2, .int .i64 0, .slice VA vn vc, .slice none 0 0] ∧ wr.ownsRow 0 73 1 (.slice VA vn vc) (plsNums 0 (ptsN 0 ns k)).length (flV (plsNums 0 (ptsN 0 ns k))) ∧ (∀ b, (Value.slice VA vn vc).ownBlock = some b → W.heap.size ≤ b) ∧ Blk wr (W.heap.size + 1) 25 #[.int .i64 0, .int .i64 0, .slice none 0 0, .slice none 0 0] ∧ Blk wr W.heap.size 87 #[.int .u8 0, .slice A n c] ∧ Below W.heap.size W wr ∧ T < wr.heap.size) (fun i _ => L - (intOf i).toNat)
  case atStart => exact ⟨0, none, 0, 0, Nat.zero_le _, rfl, T3.out, by simpa [ptsN, plsNums, flV] using World.ownsRow_nil _ _ _ _, fun b e => by simp [Value.ownBlock] at e, R3.out, P3.out, B3.out, hsa⟩
  case round =>
    obtain ⟨k, VA, vn, vc, hk, rfl, xt, ov, vb, rb, sb, be, hT⟩ := hrel
    have s0 := sb.cell 0
    have s1 := sb.cell 1
    simp at s0 s1
    have XTa := Hd xt
    have OVa := Hd ov
    have VB := Hd vb
    have RBa := Hd rb
    have SBa := Hd sb
    have BEa := Hd be
    clear xt ov vb rb sb be
    go_wp2_with fail
    refine (HLEN.out _).mono ?_
    rintro e w5 ⟨rfl, b5⟩
    have h5 := b5.size
    have XTb := Hd (XTa.out.below b5 XTa.out.lt)
    have OVb : Hid (w5.ownsRow 0 73 1 (.slice VA vn vc) (plsNums 0 (ptsN 0 ns k)).length (flV (plsNums 0 (ptsN 0 ns k)))) := Hd (own_keep OVa.out (fun b _ hb => b5.block b hb))
    have RBb := Hd (RBa.out.below b5 RBa.out.lt)
    have SBb := Hd (SBa.out.below b5 SBa.out.lt)
    have BEb := Hd (BEa.out.trans (b5.mono BEa.out.size))
    have s0 := SBb.out.cell 0
    have s1 := SBb.out.cell 1
    simp at s0 s1
    clear b5 XTa OVa RBa SBa BEa
    by_cases hlt : k < L
    · have hkl : decide ((k : Int) < (L : Int)) = true := decide_eq_true (by omega)
      obtain ⟨g, rfl, hg⟩ := HA.out (by omega)
      have hg5 : Blk w5 g 73 (flV ns).toArray := hg.below BEb.out hg.lt
      have HG := Hd (HGET.out w5 g k hg5 hlt)
      have HPT : Hid (plsNums 0 (ptsN 0 ns (k + 1)) = plsNums 0 (ptsN 0 ns k) ++ plNums 0 (ptN 0 ns k)) := Hd (by rw [ptsN_succ, plsNums_snoc])
      have hpl := HPLEN.out k (by omega)
      generalize plsNums 0 (ptsN 0 ns k) = xs at *
      generalize ptN 0 ns k = pt at *
      obtain ⟨x, y, z, m⟩ := pt
      clear hg hg5
      go_wp2_with fail
      refine HG.out.mono ?_
      rintro e w6 ⟨rfl, b6⟩
      have h6 := b6.size
      have XT := Hd ((XTb.out.below b6 XTb.out.lt).alloc (.cells #[.float .f64 x, .float .f64 y, .float .f64 z, .float .f64 m, .int .u8 0] 107))
      have OV : Hid ((w6.alloc (.cells #[.float .f64 x, .float .f64 y, .float .f64 z, .float .f64 m, .int .u8 0] 107)).ownsRow 0 73 1 (.slice VA vn vc) xs.length (flV xs)) := Hd ((own_keep OVb.out (fun b _ hb => b6.block b hb)).alloc _)
      have RB := Hd ((RBb.out.below b6 RBb.out.lt).alloc (.cells #[.float .f64 x, .float .f64 y, .float .f64 z, .float .f64 m, .int .u8 0] 107))
      have SB := Hd ((SBb.out.below b6 SBb.out.lt).alloc (.cells #[.float .f64 x, .float .f64 y, .float .f64 z, .float .f64 m, .int .u8 0] 107))
      have BE := Hd ((BEb.out.trans (b6.mono BEb.out.size)).alloc (by omega) (.cells #[.float .f64 x, .float .f64 y, .float .f64 z, .float .f64 m, .int .u8 0] 107))
      have CB := Hd (Blk.new w6 107 #[.float .f64 x, .float .f64 y, .float .f64 z, .float .f64 m, .int .u8 0])
      have hs5 : (w6.alloc (.cells #[.float .f64 x, .float .f64 y, .float .f64 z, .float .f64 m, .int .u8 0] 107)).heap.size = w6.heap.size + 1 := World.size_alloc _ _
      have hTC : T + 1 ≤ w6.heap.size := by omega
      clear b6 XTb OVb RBb SBb BEb s0 s1
      go_upto_region 6 with fail
      generalize w6.alloc (.cells #[.float .f64 x, .float .f64 y, .float .f64 z, .float .f64 m, .int .u8 0] 107) = w7 at *
      generalize w6.heap.size = C at *
      have c0_ := CB.out.cell 0
      have c1_ := CB.out.cell 1
      have c2_ := CB.out.cell 2
      have c3_ := CB.out.cell 3
      have c4_ := CB.out.cell 4
      have t2_ := XT.out.cell 2
      simp at c0_ c1_ c2_ c3_ c4_ t2_
      go_wp2_with (first | (go_at_call 153; refine (is3D_any 0 false (by decide) _).mono ?_; rintro e w9 ⟨rfl, rfl⟩) | (go_at_call 154; refine (isM_any 0 false (by decide) _).mono ?_; rintro e w9 ⟨rfl, rfl⟩) | (at_builtin; refine wpList_append_any _ rfl _ _ _ rfl 0 73 i0 (.float .f64 0) 1 8 Tryz.underlying22 hi0 hz0 hz1 hz2 rfl (by decide) _ _ _ rfl (OV.out.alloc _) _ _ 2 _ (flV [x, y]) rfl (by exact reads_fl (by first | rfl | omega | simp [World.setCell])) (flV_one _) (by first | (simp only [maxLen]; omega) | (simp only [maxLen, List.length_append, List.length_cons, List.length_nil]; omega) | (simp [maxLen]; done) | (simp [maxLen]; omega)) (by first | omega | (simp only [List.length_append, List.length_cons, List.length_nil]; omega) | (simp; done) | (simp; omega)) (Nat.zero_le _) ?_; intro v1 W1 ho hg hp; have NP := num_push (ys := [x, y]) (base := W.heap.size) XT.out ((Below.refl _ _).alloc (Nat.le_refl _) _) OV.out VB.out (by have := BE.out.size; omega) (by omega) ho hg hp; obtain ⟨xt, ov, vb, be, z1, z2, kp, kq⟩ := NP; obtain ⟨Av, nv, cv, rfl⟩ := own_sl ho; have cb := kp _ _ _ CB.out (by decide) (by omega); have rb := kp _ _ _ RB.out (by decide) (by omega); have be2 := BE.out.trans be; have sb_ := kp _ _ _ SB.out (by decide) (by omega); have SB := Hd sb_; clear sb_; clear c0_ c1_ c2_ c3_ c4_ t2_; have c0_ := cb.cell 0; have c1_ := cb.cell 1; have c2_ := cb.cell 2; have c3_ := cb.cell 3; have c4_ := cb.cell 4; have t2_ := xt.cell 2; simp at c0_ c1_ c2_ c3_ c4_ t2_; have XT := Hd xt; have OV := Hd ov; have VB := Hd vb; have CB := Hd cb; have RB := Hd rb; have BE := Hd be2; clear ho hg hp kp kq xt ov vb cb rb be be2))
      go_roundw
      case rel =>
        refine ⟨k + 1, _, _, _, by omega, by go_num, XT.out, ?_, VB.out, RB.out, SB.out, BE.out, by have := XT.out.lt; exact this⟩
        rw [HPT.out]
        have h := OV.out
        simpa [plNums, List.append_assoc] using h
      case measure => simp [intOf]; omega
    · obtain rfl : L = k := by omega
      have hkl : decide ((L : Int) < (L : Int)) = false := decide_eq_false (by omega)
      have XT := XTb
      have RB := RBb
      have u0 := XT.out.cell 0
      have u1 := XT.out.cell 1
      have u2 := XT.out.cell 2
      have u3 := XT.out.cell 3
      have v0 := RB.out.cell 0
      have v1 := RB.out.cell 1
      have v2 := RB.out.cell 2
      have v3 := RB.out.cell 3
      have z0 := RB.out.frozen 0
      have z1 := RB.out.frozen 1
      have z2 := RB.out.frozen 2
      have z3 := RB.out.frozen 3
      simp at u0 u1 u2 u3 v0 v1 v2 v3
      obtain ⟨f0, f1, f2, f3⟩ := cells_four RB.out (.int .i64 2) (.int .i64 0) (.slice VA vn vc) (.slice none 0 0)
      have HNE := Hd (own_blk_ne OVb.out RB.out (by decide))
      have OV2 : Hid (w5.ownsRow 0 73 1 (.slice VA vn vc) ns.length (flV ns)) := Hd (by have h := OVb.out; rwa [HSAME.out] at h)
      clear s0 s1
      go_wp2
      refine bodyPost_ret (by simp [results, Tryz.results155, go_sem, f0, f1, f2, f3]; try rfl) rfl ?_
      refine ⟨[.int .i64 2, .int .i64 0, .slice VA vn vc, .slice none 0 0], rfl, plain_made (R := W.heap.size + 1) (a := .int .i64 2) (b := .int .i64 0) (c := .slice VA vn vc) (d := .slice none 0 0) HBB.out OV2.out VB.out HNE.out, below_setCell' (below_setCell' (below_setCell' (below_setCell' BEb.out (Nat.le_succ _) _) (Nat.le_succ _) _) (Nat.le_succ _) _) (Nat.le_succ _) _⟩

set_option maxRecDepth 100000 in
theorem plainSeq_1 {A : Option Addr} {n c : Nat} {ns : List Nat} (W : World) (hn : ns.length = n) (hm : n % wd 1 = 0) (hs : n ≤ 1000000) (hb : ∀ b ∈ ns, b < 18446744073709551616) (hA : 0 < n → ∃ g, A = some ⟨g, 0, none⟩ ∧ Blk W g 73 (flV ns).toArray) :
    Calls Tryz.prog 155 #[.agg #[.int .u8 1, .slice A n c]] W fun e w' => ∃ cs, e = .returned (.agg cs.toArray) ∧ GmOn w' (fun b => W.heap.size ≤ b) cs (.mk 2 1 ns []) ∧ Below W.heap.size W w' := by
  obtain ⟨i0, hi0, hz0, hz1, hz2⟩ := info_parts info_f64
  have HSAME : Hid (plsNums 1 (ptsN 1 ns (n / wd 1)) = ns) := Hd (by
    have h := forceS_same 1 (by omega) (by omega) ns (by rw [hn]; exact hm)
    unfold forceS at h
    rwa [hn] at h)
  have hwp : 2 ≤ wd 1 ∧ wd 1 ≤ 4 := by decide
  have hle : n / wd 1 ≤ n := Nat.div_le_self _ _
  have hdm := Nat.div_mul_le_self n (wd 1)
  have hwd0 : 0 < wd 1 := by omega
  have b2 : Below W.heap.size W ((W.alloc (.cells #[.int .u8 1, .slice A n c] 87)).alloc (.cells #[.int .i64 0, .int .i64 0, .slice none 0 0, .slice none 0 0] 25)) := ((Below.refl _ _).alloc (Nat.le_refl _) _).alloc (by simp) _
  have p2 := (Blk.new W 87 #[.int .u8 1, .slice A n c]).alloc (.cells #[.int .i64 0, .int .i64 0, .slice none 0 0, .slice none 0 0] 25)
  have r2 := Blk.new (W.alloc (.cells #[.int .u8 1, .slice A n c] 87)) 25 #[.int .i64 0, .int .i64 0, .slice none 0 0, .slice none 0 0]
  rw [World.size_alloc] at r2
  have B2 := Hd b2
  have P2 := Hd p2
  have R2 := Hd r2
  have HN := Hd hn
  have HBB := Hd hb
  have HA := Hd hA
  have HGET : Hid (∀ (w : World) (g k : Nat), Blk w g 73 (flV ns).toArray → k < n / wd 1 → Calls Tryz.prog 125 #[.agg #[.int .u8 1, .slice (some ⟨g, 0, none⟩) n c], .int .i64 k] w fun e w' => e = .returned (.agg #[.float .f64 (ptN 1 ns k).1, .float .f64 (ptN 1 ns k).2.1, .float .f64 (ptN 1 ns k).2.2.1, .float .f64 (ptN 1 ns k).2.2.2, .int .u8 1]) ∧ Below w.heap.size w w') := Hd (fun w g k h hk => Get_any 1 (by omega) (by omega) g k n c ns w h hn (Nat.le_trans (Nat.mul_le_mul_right _ hk) hdm) (by omega))
  have HLEN := Hd (fun w : World => Length_any 1 (by omega) (by omega) A n c (by omega) w)
  clear b2 p2 r2 hn hb hA hm hdm
  have HPLEN : Hid (∀ k, k ≤ n / wd 1 → (plsNums 1 (ptsN 1 ns k)).length ≤ 4 * k) := Hd (fun k _ => by have h := plsNums_len 1 (ptsN 1 ns k); rwa [ptsN_length] at h)
  generalize n / wd 1 = L at *
  go_enter Tryz.func155, Tryz.ntmps155
  go_wp2_with fail
  refine (SeqCType_any 1 A n c _).mono ?_
  rintro e w3 ⟨rfl, b3⟩
  have s3 : W.heap.size + 2 ≤ w3.heap.size := by have := b3.size; simpa using this
  have B3 := Hd ((B2.out.trans (b3.mono B2.out.size)).alloc (by omega) (.cells #[.int .i64 2, .int .i64 1, .slice none 0 0, .slice none 0 0] 25))
  have P3 := Hd ((P2.out.below b3 P2.out.lt).alloc (.cells #[.int .i64 2, .int .i64 1, .slice none 0 0, .slice none 0 0] 25))
  have R3 := Hd ((R2.out.below b3 R2.out.lt).alloc (.cells #[.int .i64 2, .int .i64 1, .slice none 0 0, .slice none 0 0] 25))
  have T3 := Hd (Blk.new w3 25 #[.int .i64 2, .int .i64 1, .slice none 0 0, .slice none 0 0])
  have hsa : w3.heap.size < (w3.alloc (.cells #[.int .i64 2, .int .i64 1, .slice none 0 0, .slice none 0 0] 25)).heap.size := by rw [World.size_alloc]; omega
  clear b3 P2 R2 B2
  go_upto_region 2 with fail
  generalize w3.alloc (.cells #[.int .i64 2, .int .i64 1, .slice none 0 0, .slice none 0 0] 25) = w4 at *
  generalize w3.heap.size = T at *
  go_wp2_with fail
  go_loopw [4] (fun i wr => ∃ (k : Nat) (VA : Option Addr) (vn vc : Nat), k ≤ L ∧ i = .int .i64 k ∧ Blk wr T 25 #[.int .i64 2, .int .i64 1, .slice VA vn vc, .slice none 0 0] ∧ wr.ownsRow 0 73 1 (.slice VA vn vc) (plsNums 1 (ptsN 1 ns k)).length (flV (plsNums 1 (ptsN 1 ns k))) ∧ (∀ b, (Value.slice VA vn vc).ownBlock = some b → W.heap.size ≤ b) ∧ Blk wr (W.heap.size + 1) 25 #[.int .i64 0, .int .i64 0, .slice none 0 0, .slice none 0 0] ∧ Blk wr W.heap.size 87 #[.int .u8 1, .slice A n c] ∧ Below W.heap.size W wr ∧ T < wr.heap.size) (fun i _ => L - (intOf i).toNat)
  case atStart => exact ⟨0, none, 0, 0, Nat.zero_le _, rfl, T3.out, by simpa [ptsN, plsNums, flV] using World.ownsRow_nil _ _ _ _, fun b e => by simp [Value.ownBlock] at e, R3.out, P3.out, B3.out, hsa⟩
  case round =>
    obtain ⟨k, VA, vn, vc, hk, rfl, xt, ov, vb, rb, sb, be, hT⟩ := hrel
    have s0 := sb.cell 0
    have s1 := sb.cell 1
    simp at s0 s1
    have XTa := Hd xt
    have OVa := Hd ov
    have VB := Hd vb
    have RBa := Hd rb
    have SBa := Hd sb
    have BEa := Hd be
    clear xt ov vb rb sb be
    go_wp2_with fail
    refine (HLEN.out _).mono ?_
    rintro e w5 ⟨rfl, b5⟩
    have h5 := b5.size
    have XTb := Hd (XTa.out.below b5 XTa.out.lt)
    have OVb : Hid (w5.ownsRow 0 73 1 (.slice VA vn vc) (plsNums 1 (ptsN 1 ns k)).length (flV (plsNums 1 (ptsN 1 ns k)))) := Hd (own_keep OVa.out (fun b _ hb => b5.block b hb))
    have RBb := Hd (RBa.out.below b5 RBa.out.lt)
    have SBb := Hd (SBa.out.below b5 SBa.out.lt)
    have BEb := Hd (BEa.out.trans (b5.mono BEa.out.size))
    have s0 := SBb.out.cell 0
    have s1 := SBb.out.cell 1
    simp at s0 s1
    clear b5 XTa OVa RBa SBa BEa
    by_cases hlt : k < L
    · have hkl : decide ((k : Int) < (L : Int)) = true := decide_eq_true (by omega)
      obtain ⟨g, rfl, hg⟩ := HA.out (by omega)
      have hg5 : Blk w5 g 73 (flV ns).toArray := hg.below BEb.out hg.lt
      have HG := Hd (HGET.out w5 g k hg5 hlt)
      have HPT : Hid (plsNums 1 (ptsN 1 ns (k + 1)) = plsNums 1 (ptsN 1 ns k) ++ plNums 1 (ptN 1 ns k)) := Hd (by rw [ptsN_succ, plsNums_snoc])
      have hpl := HPLEN.out k (by omega)
      generalize plsNums 1 (ptsN 1 ns k) = xs at *
      generalize ptN 1 ns k = pt at *
      obtain ⟨x, y, z, m⟩ := pt
      clear hg hg5
      go_wp2_with fail
      refine HG.out.mono ?_
      rintro e w6 ⟨rfl, b6⟩
      have h6 := b6.size
      have XT := Hd ((XTb.out.below b6 XTb.out.lt).alloc (.cells #[.float .f64 x, .float .f64 y, .float .f64 z, .float .f64 m, .int .u8 1] 107))
      have OV : Hid ((w6.alloc (.cells #[.float .f64 x, .float .f64 y, .float .f64 z, .float .f64 m, .int .u8 1] 107)).ownsRow 0 73 1 (.slice VA vn vc) xs.length (flV xs)) := Hd ((own_keep OVb.out (fun b _ hb => b6.block b hb)).alloc _)
      have RB := Hd ((RBb.out.below b6 RBb.out.lt).alloc (.cells #[.float .f64 x, .float .f64 y, .float .f64 z, .float .f64 m, .int .u8 1] 107))
      have SB := Hd ((SBb.out.below b6 SBb.out.lt).alloc (.cells #[.float .f64 x, .float .f64 y, .float .f64 z, .float .f64 m, .int .u8 1] 107))
      have BE := Hd ((BEb.out.trans (b6.mono BEb.out.size)).alloc (by omega) (.cells #[.float .f64 x, .float .f64 y, .float .f64 z, .float .f64 m, .int .u8 1] 107))
      have CB := Hd (Blk.new w6 107 #[.float .f64 x, .float .f64 y, .float .f64 z, .float .f64 m, .int .u8 1])
      have hs5 : (w6.alloc (.cells #[.float .f64 x, .float .f64 y, .float .f64 z, .float .f64 m, .int .u8 1] 107)).heap.size = w6.heap.size + 1 := World.size_alloc _ _
      have hTC : T + 1 ≤ w6.heap.size := by omega
      clear b6 XTb OVb RBb SBb BEb s0 s1
      go_upto_region 6 with fail
      generalize w6.alloc (.cells #[.float .f64 x, .float .f64 y, .float .f64 z, .float .f64 m, .int .u8 1] 107) = w7 at *
      generalize w6.heap.size = C at *
      have c0_ := CB.out.cell 0
      have c1_ := CB.out.cell 1
      have c2_ := CB.out.cell 2
      have c3_ := CB.out.cell 3
      have c4_ := CB.out.cell 4
      have t2_ := XT.out.cell 2
      simp at c0_ c1_ c2_ c3_ c4_ t2_
      go_wp2_with (first | (go_at_call 153; refine (is3D_any 1 true (by decide) _).mono ?_; rintro e w9 ⟨rfl, rfl⟩) | (go_at_call 154; refine (isM_any 1 false (by decide) _).mono ?_; rintro e w9 ⟨rfl, rfl⟩) | (at_builtin; refine wpList_append_any _ rfl _ _ _ rfl 0 73 i0 (.float .f64 0) 1 8 Tryz.underlying22 hi0 hz0 hz1 hz2 rfl (by decide) _ _ _ rfl (OV.out.alloc _) _ _ 2 _ (flV [x, y]) rfl (by exact reads_fl (by first | rfl | omega | simp [World.setCell])) (flV_one _) (by first | (simp only [maxLen]; omega) | (simp only [maxLen, List.length_append, List.length_cons, List.length_nil]; omega) | (simp [maxLen]; done) | (simp [maxLen]; omega)) (by first | omega | (simp only [List.length_append, List.length_cons, List.length_nil]; omega) | (simp; done) | (simp; omega)) (Nat.zero_le _) ?_; intro v1 W1 ho hg hp; have NP := num_push (ys := [x, y]) (base := W.heap.size) XT.out ((Below.refl _ _).alloc (Nat.le_refl _) _) OV.out VB.out (by have := BE.out.size; omega) (by omega) ho hg hp; obtain ⟨xt, ov, vb, be, z1, z2, kp, kq⟩ := NP; obtain ⟨Av, nv, cv, rfl⟩ := own_sl ho; have cb := kp _ _ _ CB.out (by decide) (by omega); have rb := kp _ _ _ RB.out (by decide) (by omega); have be2 := BE.out.trans be; have sb_ := kp _ _ _ SB.out (by decide) (by omega); have SB := Hd sb_; clear sb_; clear c0_ c1_ c2_ c3_ c4_ t2_; have c0_ := cb.cell 0; have c1_ := cb.cell 1; have c2_ := cb.cell 2; have c3_ := cb.cell 3; have c4_ := cb.cell 4; have t2_ := xt.cell 2; simp at c0_ c1_ c2_ c3_ c4_ t2_; have XT := Hd xt; have OV := Hd ov; have VB := Hd vb; have CB := Hd cb; have RB := Hd rb; have BE := Hd be2; clear ho hg hp kp kq xt ov vb cb rb be be2) | (at_builtin; refine wpList_append_any _ rfl _ _ _ rfl 0 73 i0 (.float .f64 0) 1 8 Tryz.underlying22 hi0 hz0 hz1 hz2 rfl (by decide) _ _ _ rfl (OV.out.alloc _) _ _ 1 _ (flV [z]) rfl (by exact reads_fl (by first | rfl | omega | simp [World.setCell])) (flV_one _) (by first | (simp only [maxLen]; omega) | (simp only [maxLen, List.length_append, List.length_cons, List.length_nil]; omega) | (simp [maxLen]; done) | (simp [maxLen]; omega)) (by first | omega | (simp only [List.length_append, List.length_cons, List.length_nil]; omega) | (simp; done) | (simp; omega)) (Nat.zero_le _) ?_; intro v1 W1 ho hg hp; have NP := num_push (ys := [z]) (base := W.heap.size) XT.out ((Below.refl _ _).alloc (Nat.le_refl _) _) OV.out VB.out (by have := BE.out.size; omega) (by omega) ho hg hp; obtain ⟨xt, ov, vb, be, z1, z2, kp, kq⟩ := NP; obtain ⟨Av, nv, cv, rfl⟩ := own_sl ho; have cb := kp _ _ _ CB.out (by decide) (by omega); have rb := kp _ _ _ RB.out (by decide) (by omega); have be2 := BE.out.trans be; have sb_ := kp _ _ _ SB.out (by decide) (by omega); have SB := Hd sb_; clear sb_; clear c0_ c1_ c2_ c3_ c4_ t2_; have c0_ := cb.cell 0; have c1_ := cb.cell 1; have c2_ := cb.cell 2; have c3_ := cb.cell 3; have c4_ := cb.cell 4; have t2_ := xt.cell 2; simp at c0_ c1_ c2_ c3_ c4_ t2_; have XT := Hd xt; have OV := Hd ov; have VB := Hd vb; have CB := Hd cb; have RB := Hd rb; have BE := Hd be2; clear ho hg hp kp kq xt ov vb cb rb be be2))
      go_roundw
      case rel =>
        refine ⟨k + 1, _, _, _, by omega, by go_num, XT.out, ?_, VB.out, RB.out, SB.out, BE.out, by have := XT.out.lt; exact this⟩
        rw [HPT.out]
        have h := OV.out
        simpa [plNums, List.append_assoc] using h
      case measure => simp [intOf]; omega
    · obtain rfl : L = k := by omega
      have hkl : decide ((L : Int) < (L : Int)) = false := decide_eq_false (by omega)
      have XT := XTb
      have RB := RBb
      have u0 := XT.out.cell 0
      have u1 := XT.out.cell 1
      have u2 := XT.out.cell 2
      have u3 := XT.out.cell 3
      have v0 := RB.out.cell 0
      have v1 := RB.out.cell 1
      have v2 := RB.out.cell 2
      have v3 := RB.out.cell 3
      have z0 := RB.out.frozen 0
      have z1 := RB.out.frozen 1
      have z2 := RB.out.frozen 2
      have z3 := RB.out.frozen 3
      simp at u0 u1 u2 u3 v0 v1 v2 v3
      obtain ⟨f0, f1, f2, f3⟩ := cells_four RB.out (.int .i64 2) (.int .i64 1) (.slice VA vn vc) (.slice none 0 0)
      have HNE := Hd (own_blk_ne OVb.out RB.out (by decide))
      have OV2 : Hid (w5.ownsRow 0 73 1 (.slice VA vn vc) ns.length (flV ns)) := Hd (by have h := OVb.out; rwa [HSAME.out] at h)
      clear s0 s1
      go_wp2
      refine bodyPost_ret (by simp [results, Tryz.results155, go_sem, f0, f1, f2, f3]; try rfl) rfl ?_
      refine ⟨[.int .i64 2, .int .i64 1, .slice VA vn vc, .slice none 0 0], rfl, plain_made (R := W.heap.size + 1) (a := .int .i64 2) (b := .int .i64 1) (c := .slice VA vn vc) (d := .slice none 0 0) HBB.out OV2.out VB.out HNE.out, below_setCell' (below_setCell' (below_setCell' (below_setCell' BEb.out (Nat.le_succ _) _) (Nat.le_succ _) _) (Nat.le_succ _) _) (Nat.le_succ _) _⟩

set_option maxRecDepth 100000 in
theorem plainSeq_2 {A : Option Addr} {n c : Nat} {ns : List Nat} (W : World) (hn : ns.length = n) (hm : n % wd 2 = 0) (hs : n ≤ 1000000) (hb : ∀ b ∈ ns, b < 18446744073709551616) (hA : 0 < n → ∃ g, A = some ⟨g, 0, none⟩ ∧ Blk W g 73 (flV ns).toArray) :
    Calls Tryz.prog 155 #[.agg #[.int .u8 2, .slice A n c]] W fun e w' => ∃ cs, e = .returned (.agg cs.toArray) ∧ GmOn w' (fun b => W.heap.size ≤ b) cs (.mk 2 2 ns []) ∧ Below W.heap.size W w' := by
  obtain ⟨i0, hi0, hz0, hz1, hz2⟩ := info_parts info_f64
  have HSAME : Hid (plsNums 2 (ptsN 2 ns (n / wd 2)) = ns) := Hd (by
    have h := forceS_same 2 (by omega) (by omega) ns (by rw [hn]; exact hm)
    unfold forceS at h
    rwa [hn] at h)
  have hwp : 2 ≤ wd 2 ∧ wd 2 ≤ 4 := by decide
  have hle : n / wd 2 ≤ n := Nat.div_le_self _ _
  have hdm := Nat.div_mul_le_self n (wd 2)
  have hwd0 : 0 < wd 2 := by omega
  have b2 : Below W.heap.size W ((W.alloc (.cells #[.int .u8 2, .slice A n c] 87)).alloc (.cells #[.int .i64 0, .int .i64 0, .slice none 0 0, .slice none 0 0] 25)) := ((Below.refl _ _).alloc (Nat.le_refl _) _).alloc (by simp) _
  have p2 := (Blk.new W 87 #[.int .u8 2, .slice A n c]).alloc (.cells #[.int .i64 0, .int .i64 0, .slice none 0 0, .slice none 0 0] 25)
  have r2 := Blk.new (W.alloc (.cells #[.int .u8 2, .slice A n c] 87)) 25 #[.int .i64 0, .int .i64 0, .slice none 0 0, .slice none 0 0]
  rw [World.size_alloc] at r2
  have B2 := Hd b2
  have P2 := Hd p2
  have R2 := Hd r2
  have HN := Hd hn
  have HBB := Hd hb
  have HA := Hd hA
  have HGET : Hid (∀ (w : World) (g k : Nat), Blk w g 73 (flV ns).toArray → k < n / wd 2 → Calls Tryz.prog 125 #[.agg #[.int .u8 2, .slice (some ⟨g, 0, none⟩) n c], .int .i64 k] w fun e w' => e = .returned (.agg #[.float .f64 (ptN 2 ns k).1, .float .f64 (ptN 2 ns k).2.1, .float .f64 (ptN 2 ns k).2.2.1, .float .f64 (ptN 2 ns k).2.2.2, .int .u8 2]) ∧ Below w.heap.size w w') := Hd (fun w g k h hk => Get_any 2 (by omega) (by omega) g k n c ns w h hn (Nat.le_trans (Nat.mul_le_mul_right _ hk) hdm) (by omega))
  have HLEN := Hd (fun w : World => Length_any 2 (by omega) (by omega) A n c (by omega) w)
  clear b2 p2 r2 hn hb hA hm hdm
  have HPLEN : Hid (∀ k, k ≤ n / wd 2 → (plsNums 2 (ptsN 2 ns k)).length ≤ 4 * k) := Hd (fun k _ => by have h := plsNums_len 2 (ptsN 2 ns k); rwa [ptsN_length] at h)
  generalize n / wd 2 = L at *
  go_enter Tryz.func155, Tryz.ntmps155
  go_wp2_with fail
  refine (SeqCType_any 2 A n c _).mono ?_
  rintro e w3 ⟨rfl, b3⟩
  have s3 : W.heap.size + 2 ≤ w3.heap.size := by have := b3.size; simpa using this
  have B3 := Hd ((B2.out.trans (b3.mono B2.out.size)).alloc (by omega) (.cells #[.int .i64 2, .int .i64 2, .slice none 0 0, .slice none 0 0] 25))
  have P3 := Hd ((P2.out.below b3 P2.out.lt).alloc (.cells #[.int .i64 2, .int .i64 2, .slice none 0 0, .slice none 0 0] 25))
  have R3 := Hd ((R2.out.below b3 R2.out.lt).alloc (.cells #[.int .i64 2, .int .i64 2, .slice none 0 0, .slice none 0 0] 25))
  have T3 := Hd (Blk.new w3 25 #[.int .i64 2, .int .i64 2, .slice none 0 0, .slice none 0 0])
  have hsa : w3.heap.size < (w3.alloc (.cells #[.int .i64 2, .int .i64 2, .slice none 0 0, .slice none 0 0] 25)).heap.size := by rw [World.size_alloc]; omega
  clear b3 P2 R2 B2
  go_upto_region 2 with fail
  generalize w3.alloc (.cells #[.int .i64 2, .int .i64 2, .slice none 0 0, .slice none 0 0] 25) = w4 at *
  generalize w3.heap.size = T at *
  go_wp2_with fail
  go_loopw [4] (fun i wr => ∃ (k : Nat) (VA : Option Addr) (vn vc : Nat), k ≤ L ∧ i = .int .i64 k ∧ Blk wr T 25 #[.int .i64 2, .int .i64 2, .slice VA vn vc, .slice none 0 0] ∧ wr.ownsRow 0 73 1 (.slice VA vn vc) (plsNums 2 (ptsN 2 ns k)).length (flV (plsNums 2 (ptsN 2 ns k))) ∧ (∀ b, (Value.slice VA vn vc).ownBlock = some b → W.heap.size ≤ b) ∧ Blk wr (W.heap.size + 1) 25 #[.int .i64 0, .int .i64 0, .slice none 0 0, .slice none 0 0] ∧ Blk wr W.heap.size 87 #[.int .u8 2, .slice A n c] ∧ Below W.heap.size W wr ∧ T < wr.heap.size) (fun i _ => L - (intOf i).toNat)
  case atStart => exact ⟨0, none, 0, 0, Nat.zero_le _, rfl, T3.out, by simpa [ptsN, plsNums, flV] using World.ownsRow_nil _ _ _ _, fun b e => by simp [Value.ownBlock] at e, R3.out, P3.out, B3.out, hsa⟩
  case round =>
    obtain ⟨k, VA, vn, vc, hk, rfl, xt, ov, vb, rb, sb, be, hT⟩ := hrel
    have s0 := sb.cell 0
    have s1 := sb.cell 1
    simp at s0 s1
    have XTa := Hd xt
    have OVa := Hd ov
    have VB := Hd vb
    have RBa := Hd rb
    have SBa := Hd sb
    have BEa := Hd be
    clear xt ov vb rb sb be
    go_wp2_with fail
    refine (HLEN.out _).mono ?_
    rintro e w5 ⟨rfl, b5⟩
    have h5 := b5.size
    have XTb := Hd (XTa.out.below b5 XTa.out.lt)
    have OVb : Hid (w5.ownsRow 0 73 1 (.slice VA vn vc) (plsNums 2 (ptsN 2 ns k)).length (flV (plsNums 2 (ptsN 2 ns k)))) := Hd (own_keep OVa.out (fun b _ hb => b5.block b hb))
    have RBb := Hd (RBa.out.below b5 RBa.out.lt)
    have SBb := Hd (SBa.out.below b5 SBa.out.lt)
    have BEb := Hd (BEa.out.trans (b5.mono BEa.out.size))
    have s0 := SBb.out.cell 0
    have s1 := SBb.out.cell 1
    simp at s0 s1
    clear b5 XTa OVa RBa SBa BEa
    by_cases hlt : k < L
    · have hkl : decide ((k : Int) < (L : Int)) = true := decide_eq_true (by omega)
      obtain ⟨g, rfl, hg⟩ := HA.out (by omega)
      have hg5 : Blk w5 g 73 (flV ns).toArray := hg.below BEb.out hg.lt
      have HG := Hd (HGET.out w5 g k hg5 hlt)
      have HPT : Hid (plsNums 2 (ptsN 2 ns (k + 1)) = plsNums 2 (ptsN 2 ns k) ++ plNums 2 (ptN 2 ns k)) := Hd (by rw [ptsN_succ, plsNums_snoc])
      have hpl := HPLEN.out k (by omega)
      generalize plsNums 2 (ptsN 2 ns k) = xs at *
      generalize ptN 2 ns k = pt at *
      obtain ⟨x, y, z, m⟩ := pt
      clear hg hg5
      go_wp2_with fail
      refine HG.out.mono ?_
      rintro e w6 ⟨rfl, b6⟩
      have h6 := b6.size
      have XT := Hd ((XTb.out.below b6 XTb.out.lt).alloc (.cells #[.float .f64 x, .float .f64 y, .float .f64 z, .float .f64 m, .int .u8 2] 107))
      have OV : Hid ((w6.alloc (.cells #[.float .f64 x, .float .f64 y, .float .f64 z, .float .f64 m, .int .u8 2] 107)).ownsRow 0 73 1 (.slice VA vn vc) xs.length (flV xs)) := Hd ((own_keep OVb.out (fun b _ hb => b6.block b hb)).alloc _)
      have RB := Hd ((RBb.out.below b6 RBb.out.lt).alloc (.cells #[.float .f64 x, .float .f64 y, .float .f64 z, .float .f64 m, .int .u8 2] 107))
      have SB := Hd ((SBb.out.below b6 SBb.out.lt).alloc (.cells #[.float .f64 x, .float .f64 y, .float .f64 z, .float .f64 m, .int .u8 2] 107))
      have BE := Hd ((BEb.out.trans (b6.mono BEb.out.size)).alloc (by omega) (.cells #[.float .f64 x, .float .f64 y, .float .f64 z, .float .f64 m, .int .u8 2] 107))
      have CB := Hd (Blk.new w6 107 #[.float .f64 x, .float .f64 y, .float .f64 z, .float .f64 m, .int .u8 2])
      have hs5 : (w6.alloc (.cells #[.float .f64 x, .float .f64 y, .float .f64 z, .float .f64 m, .int .u8 2] 107)).heap.size = w6.heap.size + 1 := World.size_alloc _ _
      have hTC : T + 1 ≤ w6.heap.size := by omega
      clear b6 XTb OVb RBb SBb BEb s0 s1
      go_upto_region 6 with fail
      generalize w6.alloc (.cells #[.float .f64 x, .float .f64 y, .float .f64 z, .float .f64 m, .int .u8 2] 107) = w7 at *
      generalize w6.heap.size = C at *
      have c0_ := CB.out.cell 0
      have c1_ := CB.out.cell 1
      have c2_ := CB.out.cell 2
      have c3_ := CB.out.cell 3
      have c4_ := CB.out.cell 4
      have t2_ := XT.out.cell 2
      simp at c0_ c1_ c2_ c3_ c4_ t2_
      go_wp2_with (first | (go_at_call 153; refine (is3D_any 2 false (by decide) _).mono ?_; rintro e w9 ⟨rfl, rfl⟩) | (go_at_call 154; refine (isM_any 2 true (by decide) _).mono ?_; rintro e w9 ⟨rfl, rfl⟩) | (at_builtin; refine wpList_append_any _ rfl _ _ _ rfl 0 73 i0 (.float .f64 0) 1 8 Tryz.underlying22 hi0 hz0 hz1 hz2 rfl (by decide) _ _ _ rfl (OV.out.alloc _) _ _ 2 _ (flV [x, y]) rfl (by exact reads_fl (by first | rfl | omega | simp [World.setCell])) (flV_one _) (by first | (simp only [maxLen]; omega) | (simp only [maxLen, List.length_append, List.length_cons, List.length_nil]; omega) | (simp [maxLen]; done) | (simp [maxLen]; omega)) (by first | omega | (simp only [List.length_append, List.length_cons, List.length_nil]; omega) | (simp; done) | (simp; omega)) (Nat.zero_le _) ?_; intro v1 W1 ho hg hp; have NP := num_push (ys := [x, y]) (base := W.heap.size) XT.out ((Below.refl _ _).alloc (Nat.le_refl _) _) OV.out VB.out (by have := BE.out.size; omega) (by omega) ho hg hp; obtain ⟨xt, ov, vb, be, z1, z2, kp, kq⟩ := NP; obtain ⟨Av, nv, cv, rfl⟩ := own_sl ho; have cb := kp _ _ _ CB.out (by decide) (by omega); have rb := kp _ _ _ RB.out (by decide) (by omega); have be2 := BE.out.trans be; have sb_ := kp _ _ _ SB.out (by decide) (by omega); have SB := Hd sb_; clear sb_; clear c0_ c1_ c2_ c3_ c4_ t2_; have c0_ := cb.cell 0; have c1_ := cb.cell 1; have c2_ := cb.cell 2; have c3_ := cb.cell 3; have c4_ := cb.cell 4; have t2_ := xt.cell 2; simp at c0_ c1_ c2_ c3_ c4_ t2_; have XT := Hd xt; have OV := Hd ov; have VB := Hd vb; have CB := Hd cb; have RB := Hd rb; have BE := Hd be2; clear ho hg hp kp kq xt ov vb cb rb be be2) | (at_builtin; refine wpList_append_any _ rfl _ _ _ rfl 0 73 i0 (.float .f64 0) 1 8 Tryz.underlying22 hi0 hz0 hz1 hz2 rfl (by decide) _ _ _ rfl (OV.out.alloc _) _ _ 1 _ (flV [m]) rfl (by exact reads_fl (by first | rfl | omega | simp [World.setCell])) (flV_one _) (by first | (simp only [maxLen]; omega) | (simp only [maxLen, List.length_append, List.length_cons, List.length_nil]; omega) | (simp [maxLen]; done) | (simp [maxLen]; omega)) (by first | omega | (simp only [List.length_append, List.length_cons, List.length_nil]; omega) | (simp; done) | (simp; omega)) (Nat.zero_le _) ?_; intro v1 W1 ho hg hp; have NP := num_push (ys := [m]) (base := W.heap.size) XT.out ((Below.refl _ _).alloc (Nat.le_refl _) _) OV.out VB.out (by have := BE.out.size; omega) (by omega) ho hg hp; obtain ⟨xt, ov, vb, be, z1, z2, kp, kq⟩ := NP; obtain ⟨Av, nv, cv, rfl⟩ := own_sl ho; have cb := kp _ _ _ CB.out (by decide) (by omega); have rb := kp _ _ _ RB.out (by decide) (by omega); have be2 := BE.out.trans be; have sb_ := kp _ _ _ SB.out (by decide) (by omega); have SB := Hd sb_; clear sb_; clear c0_ c1_ c2_ c3_ c4_ t2_; have c0_ := cb.cell 0; have c1_ := cb.cell 1; have c2_ := cb.cell 2; have c3_ := cb.cell 3; have c4_ := cb.cell 4; have t2_ := xt.cell 2; simp at c0_ c1_ c2_ c3_ c4_ t2_; have XT := Hd xt; have OV := Hd ov; have VB := Hd vb; have CB := Hd cb; have RB := Hd rb; have BE := Hd be2; clear ho hg hp kp kq xt ov vb cb rb be be2))
      go_roundw
      case rel =>
        refine ⟨k + 1, _, _, _, by omega, by go_num, XT.out, ?_, VB.out, RB.out, SB.out, BE.out, by have := XT.out.lt; exact this⟩
        rw [HPT.out]
        have h := OV.out
        simpa [plNums, List.append_assoc] using h
      case measure => simp [intOf]; omega
    · obtain rfl : L = k := by omega
      have hkl : decide ((L : Int) < (L : Int)) = false := decide_eq_false (by omega)
      have XT := XTb
      have RB := RBb
      have u0 := XT.out.cell 0
      have u1 := XT.out.cell 1
      have u2 := XT.out.cell 2
      have u3 := XT.out.cell 3
      have v0 := RB.out.cell 0
      have v1 := RB.out.cell 1
      have v2 := RB.out.cell 2
      have v3 := RB.out.cell 3
      have z0 := RB.out.frozen 0
      have z1 := RB.out.frozen 1
      have z2 := RB.out.frozen 2
      have z3 := RB.out.frozen 3
      simp at u0 u1 u2 u3 v0 v1 v2 v3
      obtain ⟨f0, f1, f2, f3⟩ := cells_four RB.out (.int .i64 2) (.int .i64 2) (.slice VA vn vc) (.slice none 0 0)
      have HNE := Hd (own_blk_ne OVb.out RB.out (by decide))
      have OV2 : Hid (w5.ownsRow 0 73 1 (.slice VA vn vc) ns.length (flV ns)) := Hd (by have h := OVb.out; rwa [HSAME.out] at h)
      clear s0 s1
      go_wp2
      refine bodyPost_ret (by simp [results, Tryz.results155, go_sem, f0, f1, f2, f3]; try rfl) rfl ?_
      refine ⟨[.int .i64 2, .int .i64 2, .slice VA vn vc, .slice none 0 0], rfl, plain_made (R := W.heap.size + 1) (a := .int .i64 2) (b := .int .i64 2) (c := .slice VA vn vc) (d := .slice none 0 0) HBB.out OV2.out VB.out HNE.out, below_setCell' (below_setCell' (below_setCell' (below_setCell' BEb.out (Nat.le_succ _) _) (Nat.le_succ _) _) (Nat.le_succ _) _) (Nat.le_succ _) _⟩

set_option maxRecDepth 100000 in
theorem plainSeq_3 {A : Option Addr} {n c : Nat} {ns : List Nat} (W : World) (hn : ns.length = n) (hm : n % wd 3 = 0) (hs : n ≤ 1000000) (hb : ∀ b ∈ ns, b < 18446744073709551616) (hA : 0 < n → ∃ g, A = some ⟨g, 0, none⟩ ∧ Blk W g 73 (flV ns).toArray) :
    Calls Tryz.prog 155 #[.agg #[.int .u8 3, .slice A n c]] W fun e w' => ∃ cs, e = .returned (.agg cs.toArray) ∧ GmOn w' (fun b => W.heap.size ≤ b) cs (.mk 2 3 ns []) ∧ Below W.heap.size W w' := by
  obtain ⟨i0, hi0, hz0, hz1, hz2⟩ := info_parts info_f64
  have HSAME : Hid (plsNums 3 (ptsN 3 ns (n / wd 3)) = ns) := Hd (by
    have h := forceS_same 3 (by omega) (by omega) ns (by rw [hn]; exact hm)
    unfold forceS at h
    rwa [hn] at h)
  have hwp : 2 ≤ wd 3 ∧ wd 3 ≤ 4 := by decide
  have hle : n / wd 3 ≤ n := Nat.div_le_self _ _
  have hdm := Nat.div_mul_le_self n (wd 3)
  have hwd0 : 0 < wd 3 := by omega
  have b2 : Below W.heap.size W ((W.alloc (.cells #[.int .u8 3, .slice A n c] 87)).alloc (.cells #[.int .i64 0, .int .i64 0, .slice none 0 0, .slice none 0 0] 25)) := ((Below.refl _ _).alloc (Nat.le_refl _) _).alloc (by simp) _
  have p2 := (Blk.new W 87 #[.int .u8 3, .slice A n c]).alloc (.cells #[.int .i64 0, .int .i64 0, .slice none 0 0, .slice none 0 0] 25)
  have r2 := Blk.new (W.alloc (.cells #[.int .u8 3, .slice A n c] 87)) 25 #[.int .i64 0, .int .i64 0, .slice none 0 0, .slice none 0 0]
  rw [World.size_alloc] at r2
  have B2 := Hd b2
  have P2 := Hd p2
  have R2 := Hd r2
  have HN := Hd hn
  have HBB := Hd hb
  have HA := Hd hA
  have HGET : Hid (∀ (w : World) (g k : Nat), Blk w g 73 (flV ns).toArray → k < n / wd 3 → Calls Tryz.prog 125 #[.agg #[.int .u8 3, .slice (some ⟨g, 0, none⟩) n c], .int .i64 k] w fun e w' => e = .returned (.agg #[.float .f64 (ptN 3 ns k).1, .float .f64 (ptN 3 ns k).2.1, .float .f64 (ptN 3 ns k).2.2.1, .float .f64 (ptN 3 ns k).2.2.2, .int .u8 3]) ∧ Below w.heap.size w w') := Hd (fun w g k h hk => Get_any 3 (by omega) (by omega) g k n c ns w h hn (Nat.le_trans (Nat.mul_le_mul_right _ hk) hdm) (by omega))
  have HLEN := Hd (fun w : World => Length_any 3 (by omega) (by omega) A n c (by omega) w)
  clear b2 p2 r2 hn hb hA hm hdm
  have HPLEN : Hid (∀ k, k ≤ n / wd 3 → (plsNums 3 (ptsN 3 ns k)).length ≤ 4 * k) := Hd (fun k _ => by have h := plsNums_len 3 (ptsN 3 ns k); rwa [ptsN_length] at h)
  generalize n / wd 3 = L at *
  go_enter Tryz.func155, Tryz.ntmps155
  go_wp2_with fail
  refine (SeqCType_any 3 A n c _).mono ?_
  rintro e w3 ⟨rfl, b3⟩
  have s3 : W.heap.size + 2 ≤ w3.heap.size := by have := b3.size; simpa using this
  have B3 := Hd ((B2.out.trans (b3.mono B2.out.size)).alloc (by omega) (.cells #[.int .i64 2, .int .i64 3, .slice none 0 0, .slice none 0 0] 25))
  have P3 := Hd ((P2.out.below b3 P2.out.lt).alloc (.cells #[.int .i64 2, .int .i64 3, .slice none 0 0, .slice none 0 0] 25))
  have R3 := Hd ((R2.out.below b3 R2.out.lt).alloc (.cells #[.int .i64 2, .int .i64 3, .slice none 0 0, .slice none 0 0] 25))
  have T3 := Hd (Blk.new w3 25 #[.int .i64 2, .int .i64 3, .slice none 0 0, .slice none 0 0])
  have hsa : w3.heap.size < (w3.alloc (.cells #[.int .i64 2, .int .i64 3, .slice none 0 0, .slice none 0 0] 25)).heap.size := by rw [World.size_alloc]; omega
  clear b3 P2 R2 B2
  go_upto_region 2 with fail
  generalize w3.alloc (.cells #[.int .i64 2, .int .i64 3, .slice none 0 0, .slice none 0 0] 25) = w4 at *
  generalize w3.heap.size = T at *
  go_wp2_with fail
  go_loopw [4] (fun i wr => ∃ (k : Nat) (VA : Option Addr) (vn vc : Nat), k ≤ L ∧ i = .int .i64 k ∧ Blk wr T 25 #[.int .i64 2, .int .i64 3, .slice VA vn vc, .slice none 0 0] ∧ wr.ownsRow 0 73 1 (.slice VA vn vc) (plsNums 3 (ptsN 3 ns k)).length (flV (plsNums 3 (ptsN 3 ns k))) ∧ (∀ b, (Value.slice VA vn vc).ownBlock = some b → W.heap.size ≤ b) ∧ Blk wr (W.heap.size + 1) 25 #[.int .i64 0, .int .i64 0, .slice none 0 0, .slice none 0 0] ∧ Blk wr W.heap.size 87 #[.int .u8 3, .slice A n c] ∧ Below W.heap.size W wr ∧ T < wr.heap.size) (fun i _ => L - (intOf i).toNat)
  case atStart => exact ⟨0, none, 0, 0, Nat.zero_le _, rfl, T3.out, by simpa [ptsN, plsNums, flV] using World.ownsRow_nil _ _ _ _, fun b e => by simp [Value.ownBlock] at e, R3.out, P3.out, B3.out, hsa⟩
  case round =>
    obtain ⟨k, VA, vn, vc, hk, rfl, xt, ov, vb, rb, sb, be, hT⟩ := hrel
    have s0 := sb.cell 0
    have s1 := sb.cell 1
    simp at s0 s1
    have XTa := Hd xt
    have OVa := Hd ov
    have VB := Hd vb
    have RBa := Hd rb
    have SBa := Hd sb
    have BEa := Hd be
    clear xt ov vb rb sb be
    go_wp2_with fail
    refine (HLEN.out _).mono ?_
    rintro e w5 ⟨rfl, b5⟩
    have h5 := b5.size
    have XTb := Hd (XTa.out.below b5 XTa.out.lt)
    have OVb : Hid (w5.ownsRow 0 73 1 (.slice VA vn vc) (plsNums 3 (ptsN 3 ns k)).length (flV (plsNums 3 (ptsN 3 ns k)))) := Hd (own_keep OVa.out (fun b _ hb => b5.block b hb))
    have RBb := Hd (RBa.out.below b5 RBa.out.lt)
    have SBb := Hd (SBa.out.below b5 SBa.out.lt)
    have BEb := Hd (BEa.out.trans (b5.mono BEa.out.size))
    have s0 := SBb.out.cell 0
    have s1 := SBb.out.cell 1
    simp at s0 s1
    clear b5 XTa OVa RBa SBa BEa
    by_cases hlt : k < L
    · have hkl : decide ((k : Int) < (L : Int)) = true := decide_eq_true (by omega)
      obtain ⟨g, rfl, hg⟩ := HA.out (by omega)
      have hg5 : Blk w5 g 73 (flV ns).toArray := hg.below BEb.out hg.lt
      have HG := Hd (HGET.out w5 g k hg5 hlt)
      have HPT : Hid (plsNums 3 (ptsN 3 ns (k + 1)) = plsNums 3 (ptsN 3 ns k) ++ plNums 3 (ptN 3 ns k)) := Hd (by rw [ptsN_succ, plsNums_snoc])
      have hpl := HPLEN.out k (by omega)
      generalize plsNums 3 (ptsN 3 ns k) = xs at *
      generalize ptN 3 ns k = pt at *
      obtain ⟨x, y, z, m⟩ := pt
      clear hg hg5
      go_wp2_with fail
      refine HG.out.mono ?_
      rintro e w6 ⟨rfl, b6⟩
      have h6 := b6.size
      have XT := Hd ((XTb.out.below b6 XTb.out.lt).alloc (.cells #[.float .f64 x, .float .f64 y, .float .f64 z, .float .f64 m, .int .u8 3] 107))
      have OV : Hid ((w6.alloc (.cells #[.float .f64 x, .float .f64 y, .float .f64 z, .float .f64 m, .int .u8 3] 107)).ownsRow 0 73 1 (.slice VA vn vc) xs.length (flV xs)) := Hd ((own_keep OVb.out (fun b _ hb => b6.block b hb)).alloc _)
      have RB := Hd ((RBb.out.below b6 RBb.out.lt).alloc (.cells #[.float .f64 x, .float .f64 y, .float .f64 z, .float .f64 m, .int .u8 3] 107))
      have SB := Hd ((SBb.out.below b6 SBb.out.lt).alloc (.cells #[.float .f64 x, .float .f64 y, .float .f64 z, .float .f64 m, .int .u8 3] 107))
      have BE := Hd ((BEb.out.trans (b6.mono BEb.out.size)).alloc (by omega) (.cells #[.float .f64 x, .float .f64 y, .float .f64 z, .float .f64 m, .int .u8 3] 107))
      have CB := Hd (Blk.new w6 107 #[.float .f64 x, .float .f64 y, .float .f64 z, .float .f64 m, .int .u8 3])
      have hs5 : (w6.alloc (.cells #[.float .f64 x, .float .f64 y, .float .f64 z, .float .f64 m, .int .u8 3] 107)).heap.size = w6.heap.size + 1 := World.size_alloc _ _
      have hTC : T + 1 ≤ w6.heap.size := by omega
      clear b6 XTb OVb RBb SBb BEb s0 s1
      go_upto_region 6 with fail
      generalize w6.alloc (.cells #[.float .f64 x, .float .f64 y, .float .f64 z, .float .f64 m, .int .u8 3] 107) = w7 at *
      generalize w6.heap.size = C at *
      have c0_ := CB.out.cell 0
      have c1_ := CB.out.cell 1
      have c2_ := CB.out.cell 2
      have c3_ := CB.out.cell 3
      have c4_ := CB.out.cell 4
      have t2_ := XT.out.cell 2
      simp at c0_ c1_ c2_ c3_ c4_ t2_
      go_wp2_with (first | (go_at_call 153; refine (is3D_any 3 true (by decide) _).mono ?_; rintro e w9 ⟨rfl, rfl⟩) | (go_at_call 154; refine (isM_any 3 true (by decide) _).mono ?_; rintro e w9 ⟨rfl, rfl⟩) | (at_builtin; refine wpList_append_any _ rfl _ _ _ rfl 0 73 i0 (.float .f64 0) 1 8 Tryz.underlying22 hi0 hz0 hz1 hz2 rfl (by decide) _ _ _ rfl (OV.out.alloc _) _ _ 2 _ (flV [x, y]) rfl (by exact reads_fl (by first | rfl | omega | simp [World.setCell])) (flV_one _) (by first | (simp only [maxLen]; omega) | (simp only [maxLen, List.length_append, List.length_cons, List.length_nil]; omega) | (simp [maxLen]; done) | (simp [maxLen]; omega)) (by first | omega | (simp only [List.length_append, List.length_cons, List.length_nil]; omega) | (simp; done) | (simp; omega)) (Nat.zero_le _) ?_; intro v1 W1 ho hg hp; have NP := num_push (ys := [x, y]) (base := W.heap.size) XT.out ((Below.refl _ _).alloc (Nat.le_refl _) _) OV.out VB.out (by have := BE.out.size; omega) (by omega) ho hg hp; obtain ⟨xt, ov, vb, be, z1, z2, kp, kq⟩ := NP; obtain ⟨Av, nv, cv, rfl⟩ := own_sl ho; have cb := kp _ _ _ CB.out (by decide) (by omega); have rb := kp _ _ _ RB.out (by decide) (by omega); have be2 := BE.out.trans be; have sb_ := kp _ _ _ SB.out (by decide) (by omega); have SB := Hd sb_; clear sb_; clear c0_ c1_ c2_ c3_ c4_ t2_; have c0_ := cb.cell 0; have c1_ := cb.cell 1; have c2_ := cb.cell 2; have c3_ := cb.cell 3; have c4_ := cb.cell 4; have t2_ := xt.cell 2; simp at c0_ c1_ c2_ c3_ c4_ t2_; have XT := Hd xt; have OV := Hd ov; have VB := Hd vb; have CB := Hd cb; have RB := Hd rb; have BE := Hd be2; clear ho hg hp kp kq xt ov vb cb rb be be2) | (at_builtin; refine wpList_append_any _ rfl _ _ _ rfl 0 73 i0 (.float .f64 0) 1 8 Tryz.underlying22 hi0 hz0 hz1 hz2 rfl (by decide) _ _ _ rfl (OV.out.alloc _) _ _ 1 _ (flV [z]) rfl (by exact reads_fl (by first | rfl | omega | simp [World.setCell])) (flV_one _) (by first | (simp only [maxLen]; omega) | (simp only [maxLen, List.length_append, List.length_cons, List.length_nil]; omega) | (simp [maxLen]; done) | (simp [maxLen]; omega)) (by first | omega | (simp only [List.length_append, List.length_cons, List.length_nil]; omega) | (simp; done) | (simp; omega)) (Nat.zero_le _) ?_; intro v1 W1 ho hg hp; have NP := num_push (ys := [z]) (base := W.heap.size) XT.out ((Below.refl _ _).alloc (Nat.le_refl _) _) OV.out VB.out (by have := BE.out.size; omega) (by omega) ho hg hp; obtain ⟨xt, ov, vb, be, z1, z2, kp, kq⟩ := NP; obtain ⟨Av, nv, cv, rfl⟩ := own_sl ho; have cb := kp _ _ _ CB.out (by decide) (by omega); have rb := kp _ _ _ RB.out (by decide) (by omega); have be2 := BE.out.trans be; have sb_ := kp _ _ _ SB.out (by decide) (by omega); have SB := Hd sb_; clear sb_; clear c0_ c1_ c2_ c3_ c4_ t2_; have c0_ := cb.cell 0; have c1_ := cb.cell 1; have c2_ := cb.cell 2; have c3_ := cb.cell 3; have c4_ := cb.cell 4; have t2_ := xt.cell 2; simp at c0_ c1_ c2_ c3_ c4_ t2_; have XT := Hd xt; have OV := Hd ov; have VB := Hd vb; have CB := Hd cb; have RB := Hd rb; have BE := Hd be2; clear ho hg hp kp kq xt ov vb cb rb be be2) | (at_builtin; refine wpList_append_any _ rfl _ _ _ rfl 0 73 i0 (.float .f64 0) 1 8 Tryz.underlying22 hi0 hz0 hz1 hz2 rfl (by decide) _ _ _ rfl (OV.out.alloc _) _ _ 1 _ (flV [m]) rfl (by exact reads_fl (by first | rfl | omega | simp [World.setCell])) (flV_one _) (by first | (simp only [maxLen]; omega) | (simp only [maxLen, List.length_append, List.length_cons, List.length_nil]; omega) | (simp [maxLen]; done) | (simp [maxLen]; omega)) (by first | omega | (simp only [List.length_append, List.length_cons, List.length_nil]; omega) | (simp; done) | (simp; omega)) (Nat.zero_le _) ?_; intro v1 W1 ho hg hp; have NP := num_push (ys := [m]) (base := W.heap.size) XT.out ((Below.refl _ _).alloc (Nat.le_refl _) _) OV.out VB.out (by have := BE.out.size; omega) (by omega) ho hg hp; obtain ⟨xt, ov, vb, be, z1, z2, kp, kq⟩ := NP; obtain ⟨Av, nv, cv, rfl⟩ := own_sl ho; have cb := kp _ _ _ CB.out (by decide) (by omega); have rb := kp _ _ _ RB.out (by decide) (by omega); have be2 := BE.out.trans be; have sb_ := kp _ _ _ SB.out (by decide) (by omega); have SB := Hd sb_; clear sb_; clear c0_ c1_ c2_ c3_ c4_ t2_; have c0_ := cb.cell 0; have c1_ := cb.cell 1; have c2_ := cb.cell 2; have c3_ := cb.cell 3; have c4_ := cb.cell 4; have t2_ := xt.cell 2; simp at c0_ c1_ c2_ c3_ c4_ t2_; have XT := Hd xt; have OV := Hd ov; have VB := Hd vb; have CB := Hd cb; have RB := Hd rb; have BE := Hd be2; clear ho hg hp kp kq xt ov vb cb rb be be2))
      go_roundw
      case rel =>
        refine ⟨k + 1, _, _, _, by omega, by go_num, XT.out, ?_, VB.out, RB.out, SB.out, BE.out, by have := XT.out.lt; exact this⟩
        rw [HPT.out]
        have h := OV.out
        simpa [plNums, List.append_assoc] using h
      case measure => simp [intOf]; omega
    · obtain rfl : L = k := by omega
      have hkl : decide ((L : Int) < (L : Int)) = false := decide_eq_false (by omega)
      have XT := XTb
      have RB := RBb
      have u0 := XT.out.cell 0
      have u1 := XT.out.cell 1
      have u2 := XT.out.cell 2
      have u3 := XT.out.cell 3
      have v0 := RB.out.cell 0
      have v1 := RB.out.cell 1
      have v2 := RB.out.cell 2
      have v3 := RB.out.cell 3
      have z0 := RB.out.frozen 0
      have z1 := RB.out.frozen 1
      have z2 := RB.out.frozen 2
      have z3 := RB.out.frozen 3
      simp at u0 u1 u2 u3 v0 v1 v2 v3
      obtain ⟨f0, f1, f2, f3⟩ := cells_four RB.out (.int .i64 2) (.int .i64 3) (.slice VA vn vc) (.slice none 0 0)
      have HNE := Hd (own_blk_ne OVb.out RB.out (by decide))
      have OV2 : Hid (w5.ownsRow 0 73 1 (.slice VA vn vc) ns.length (flV ns)) := Hd (by have h := OVb.out; rwa [HSAME.out] at h)
      clear s0 s1
      go_wp2
      refine bodyPost_ret (by simp [results, Tryz.results155, go_sem, f0, f1, f2, f3]; try rfl) rfl ?_
      refine ⟨[.int .i64 2, .int .i64 3, .slice VA vn vc, .slice none 0 0], rfl, plain_made (R := W.heap.size + 1) (a := .int .i64 2) (b := .int .i64 3) (c := .slice VA vn vc) (d := .slice none 0 0) HBB.out OV2.out VB.out HNE.out, below_setCell' (below_setCell' (below_setCell' (below_setCell' BEb.out (Nat.le_succ _) _) (Nat.le_succ _) _) (Nat.le_succ _) _) (Nat.le_succ _) _⟩

set_option maxRecDepth 100000 in
theorem plainLine_G {ok : Nat → Prop} {q : Int} {A : Option Addr} {n c : Nat} {t : Gm} (W : World) (h : LsG W ok [.int .u8 q, .slice A n c] t) (hs : n ≤ 1000000) :
    Calls Tryz.prog 104 #[.agg #[.int .u8 q, .slice A n c]] W fun e w' => ∃ cs, e = .returned (.agg cs.toArray) ∧ GmOn w' (fun b => W.heap.size ≤ b) cs t ∧ Below W.heap.size W w' := by
  obtain ⟨q', ns, rfl, A', n', c', e, q0, q1, hn, hm, hb, hA⟩ := h
  simp only [List.cons.injEq, Value.slice.injEq, Value.int.injEq, and_true, true_and] at e
  obtain ⟨rfl, rfl, rfl, rfl⟩ := e
  have hseq : ∀ w : World, Below W.heap.size W w → Calls Tryz.prog 155 #[.agg #[.int .u8 q, .slice A n c]] w fun e w' => ∃ cs, e = .returned (.agg cs.toArray) ∧ GmOn w' (fun b => w.heap.size ≤ b) cs (.mk 2 q ns []) ∧ Below w.heap.size w w' := fun w hw => by
    have hA' : 0 < n → ∃ g, A = some ⟨g, 0, none⟩ ∧ Blk w g 73 (flV ns).toArray := fun hp => by
      obtain ⟨g, e, _, hbk⟩ := hA hp
      exact ⟨g, e, hbk.below hw hbk.lt⟩
    have hq : q = 0 ∨ q = 1 ∨ q = 2 ∨ q = 3 := by
      simp only at q0 q1
      omega
    rcases hq with rfl | rfl | rfl | rfl
    · exact plainSeq_0 w hn hm hs hb hA'
    · exact plainSeq_1 w hn hm hs hb hA'
    · exact plainSeq_2 w hn hm hs hb hA'
    · exact plainSeq_3 w hn hm hs hb hA'
  have HSEQ := Hd hseq
  have b2 : Below W.heap.size W ((W.alloc (.cells #[.int .u8 q, .slice A n c] 89)).alloc (.cells #[.int .i64 0, .int .i64 0, .slice none 0 0, .slice none 0 0] 25)) := ((Below.refl _ _).alloc (Nat.le_refl _) _).alloc (by simp) _
  have r2 := Blk.new (W.alloc (.cells #[.int .u8 q, .slice A n c] 89)) 25 #[.int .i64 0, .int .i64 0, .slice none 0 0, .slice none 0 0]
  rw [World.size_alloc] at r2
  have B2 := Hd b2
  have R2 := Hd r2
  clear b2 r2 hseq hA hb hm hn q0 q1
  go_enter Tryz.func104, Tryz.ntmps104
  go_wp2_with fail
  refine (LsCoords q A n c _).mono ?_
  rintro e w3 ⟨rfl, b3⟩
  have s3 : W.heap.size + 2 ≤ w3.heap.size := by have := b3.size; simpa using this
  have B3 := Hd (B2.out.trans (b3.mono B2.out.size))
  have R3 := Hd (R2.out.below b3 R2.out.lt)
  clear b3 R2 B2
  go_wp2_with fail
  refine (HSEQ.out _ B3.out).mono ?_
  rintro e w4 ⟨cs, rfl, g4, b4⟩
  obtain ⟨yk, yd, yA, yK, yn, ym, yc, yc', rfl⟩ := g4.shape
  have B4 := Hd (B3.out.trans (b4.mono B3.out.size))
  have RB := Hd (R3.out.below b4 R3.out.lt)
  have G4 := Hd g4
  have v0 := RB.out.cell 0
  have v1 := RB.out.cell 1
  have v2 := RB.out.cell 2
  have v3 := RB.out.cell 3
  have z0 := RB.out.frozen 0
  have z1 := RB.out.frozen 1
  have z2 := RB.out.frozen 2
  have z3 := RB.out.frozen 3
  simp at v0 v1 v2 v3
  obtain ⟨f0, f1, f2, f3⟩ := cells_four RB.out (.int .i64 yk) (.int .i64 yd) (.slice yA yn yc) (.slice yK ym yc')
  clear b4 g4 R3 B3
  go_wp2
  refine bodyPost_ret (by simp [results, Tryz.results104, go_sem, f0, f1, f2, f3]; try rfl) rfl ?_
  have hk : ∀ b, W.heap.size + 2 ≤ b → ((((w4.setCell ⟨W.heap.size + 1, 0, none⟩ (.int .i64 yk)).setCell ⟨W.heap.size + 1, 1, none⟩ (.int .i64 yd)).setCell ⟨W.heap.size + 1, 2, none⟩ (.slice yA yn yc)).setCell ⟨W.heap.size + 1, 3, none⟩ (.slice yK ym yc')).heap[b]? = w4.heap[b]? := fun b hb => by
    rw [Below.heap_setCell _ _ _ b (by show b ≠ W.heap.size + 1; omega), Below.heap_setCell _ _ _ b (by show b ≠ W.heap.size + 1; omega), Below.heap_setCell _ _ _ b (by show b ≠ W.heap.size + 1; omega), Below.heap_setCell _ _ _ b (by show b ≠ W.heap.size + 1; omega)]
  exact ⟨_, rfl, GmOn.keeps _ _ _ _ _ _ G4.out (fun b hb _ => hk b (by omega)) (fun b hb _ => by omega), below_setCell' (below_setCell' (below_setCell' (below_setCell' B4.out (Nat.le_succ _) _) (Nat.le_succ _) _) (Nat.le_succ _) _) (Nat.le_succ _) _⟩

end Go.Proofs.YtofdccmmagcamaaGreatDoor
