/- What a strings.Builder holds, as a string; an envelope's text. -/
import Derived.Test.YtpbcfgehmalppaaDoorEsF
namespace Go.Proofs.YtpbcfgehmalppaaDoor
open Go.RowKit

attribute [local go_sem] run_store_float

theorem byte_cells : Tryd.prog.cellsOf 5 = 1 := by kernel_rfl

set_option maxHeartbeats 2000000 in
set_option maxRecDepth 100000 in
theorem String_sb {B b : Nat} {w : World} {p : Value} {l : List UInt8} (h : SB B w b p l) (hl0 : l ≠ []) (hl : l.length ≤ 1000000) (hBw : B ≤ w.heap.size) :
    Calls Tryd.prog 64 #[.pointer (some ⟨b, 0, none⟩)] w fun e w' => e = .returned (.string ⟨l.toArray⟩) ∧ Below B w w' := by
  obtain ⟨h1, v, h2, h3, h4⟩ := h
  have hl1 : l.length ≠ 0 := by simpa using hl0
  obtain ⟨g, cap, cur, rfl, hgB, hg, hcl⟩ : ∃ g cap cur, v = .slice (some ⟨g, 0, none⟩) l.length cap ∧ B ≤ g ∧ w.heap[g]? = some (.cells cur 5 (0, 0)) ∧ l.length ≤ cap ∧ cur.size = cap * 1 := by
    rcases h3.2 with ⟨_, hz⟩ | ⟨g, cap, cur, hv, hb, hh, r⟩
    · exact absurd hz hl1
    · exact ⟨g, cap, cur, hv, hb, hh, r.1, r.2.2.1⟩
  have c1 := (Blk.drew h2).cell 1
  simp at c1
  have hSD : (Builtin.unsafeSliceData_ #[32] 123 #[.slice (some ⟨g, 0, none⟩) l.length cap]).run Tryd.prog w.drew = .ok (.pointer (some ⟨g, 0, none⟩)) w.drew :=
    Lib.run_unsafeSliceData_row _ _ _ _ _ _ (by omega)
  have hUS : (Builtin.unsafeString_ #[123, 3] 9 #[.pointer (some ⟨g, 0, none⟩), .int .i64 l.length]).run Tryd.prog w.drew = .ok (.string ⟨l.toArray⟩) (w.drew.freeze ⟨g, 0, none⟩ l.length) := by
    refine Lib.run_unsafeString_row w.drew 123 3 9 5 Tryd.underlying123 byte_cells g cur.size (by have hg' : w.drew.heap[g]? = some (.cells cur 5 (0, 0)) := hg; simp [World.shape?, hg']) l hl0 (by omega) (by omega) ?_
    intro j x hx
    have := World.ownsRow.cells h3 (g := g) rfl j (.int .u8 x.toNat) (by simp [Lib.byteCells, hx])
    exact this
  have hbl : Below B w (w.drew.freeze ⟨g, 0, none⟩ l.length) := Lib.below_freeze (Below.drew (Below.refl B w)) (p := ⟨g, 0, none⟩) hgB _
  go_enter Tryd.func64, Tryd.ntmps64
  go_wp2
  go_region
  all_goals
    go_wp2
    go_ret
    exact ⟨rfl, hbl⟩


/-- A float's text, as bytes. -/
def tB (x : Nat) : List UInt8 := (strOfNums (ftoaV hiT loT x)).data.toList
theorem tB_len (x : Nat) (hx : x < 18446744073709551616) : (tB x).length ≤ 2000 := by
  have h := ftoaV_len hiT loT x hx
  have e : (tB x).length = (ftoaV hiT loT x).length := strOfNums_size _
  omega

set_option maxHeartbeats 2000000 in
set_option maxRecDepth 100000 in
theorem add_any {B b : Nat} {l : List UInt8} (x : Nat) (r : Int) (hx : x < 18446744073709551616) (r0 : 0 ≤ r) (r1 : r ≤ 127) (w : World) (h : SB B w b (.pointer (some ⟨b, 0, none⟩)) l) (hl : l.length ≤ 500000) (hBw : B ≤ w.heap.size) (ht : FtTabs w hiT loT) :
    Calls Tryd.prog 66 #[.float .f64 x, .int .i32 r, .pointer (some ⟨b, 0, none⟩)] w fun e w' => (∃ v, e = .returned v) ∧ SB B w' b (.pointer (some ⟨b, 0, none⟩)) (l ++ tB x ++ [UInt8.ofNat r.toNat]) ∧ Below B w w' := by
  have hf := WriteNumber_o x hiT loT w ht hx
  have hz : (strOfNums (ftoaV hiT loT x)).size ≤ 2000 := tB_len x hx
  have htb : (strOfNums (ftoaV hiT loT x)).data.toList = tB x := rfl
  generalize strOfNums (ftoaV hiT loT x) = T at *
  have HF := Lib.hid hf
  have HTB := Lib.hid htb
  clear hf htb ht
  go_enter Tryd.func66, Tryd.ntmps66
  go_wp2_with fail
  refine HF.out.mono ?_
  rintro e w1 ⟨rfl, h1⟩
  have k1 := h.below h1
  have b1 : Below B w w1 := h1.mono hBw
  have hB1 := Nat.le_trans hBw h1.size
  go_wp2_with fail
  refine (WriteString_sb T (.inr rfl) k1 (by omega) hB1).mono ?_
  rintro e w2 ⟨⟨v2, rfl⟩, k2, b2⟩
  rw [HTB.out] at k2
  have hB2 := Nat.le_trans hB1 b2.size
  have hl2 : (l ++ tB x).length ≤ 900000 := by rw [List.length_append]; have := tB_len x hx; omega
  go_wp2_with fail
  refine (WriteRune_sb r r0 r1 (.inr rfl) k2 hl2 hB2).mono ?_
  rintro e w3 ⟨⟨v3, rfl⟩, k3, b3⟩
  go_wp2
  go_end0
  exact ⟨⟨_, rfl⟩, k3, (b1.trans b2).trans b3⟩

/-- The text of an envelope that is not empty, as bytes. -/
def envB (x y m n : Nat) : List UInt8 := [69, 78, 86, 69, 76, 79, 80, 69] ++ [40] ++ tB x ++ [32] ++ tB y ++ [44] ++ tB m ++ [32] ++ tB n ++ [41]

set_option maxHeartbeats 2000000 in
set_option maxRecDepth 100000 in
theorem String_full (x y m n : Nat) (hx : x < 18446744073709551616) (hy : y < 18446744073709551616) (hm : m < 18446744073709551616) (hn : n < 18446744073709551616) (w : World) (ht : FtTabs w hiT loT) :
    Calls Tryd.prog 44 #[.agg #[.float .f64 x, .float .f64 y, .float .f64 m, .float .f64 n, .bool true]] w fun e w' => e = .returned (.string ⟨(envB x y m n).toArray⟩) ∧ Below w.heap.size w w' := by
  have hA : Below w.heap.size w (w.alloc (.cells #[.float .f64 x, .float .f64 y, .float .f64 m, .float .f64 n, .bool true] 83)) := (Below.refl _ _).alloc (Nat.le_refl _) _
  have HA := Lib.hid (hA.alloc (by simp) (.cells #[.pointer none, .slice none 0 0] 109))
  have k0 := (Blk.new w 83 #[.float .f64 x, .float .f64 y, .float .f64 m, .float .f64 n, .bool true]).alloc (.cells #[.pointer none, .slice none 0 0] 109)
  have k1 := Blk.new (w.alloc (.cells #[.float .f64 x, .float .f64 y, .float .f64 m, .float .f64 n, .bool true] 83)) 109 #[.pointer none, .slice none 0 0]
  rw [World.size_alloc] at k1
  have s0 : SB (w.heap.size + 1) ((w.alloc (.cells #[.float .f64 x, .float .f64 y, .float .f64 m, .float .f64 n, .bool true] 83)).alloc (.cells #[.pointer none, .slice none 0 0] 109)) (w.heap.size + 1) (.pointer none) [] :=
    ⟨Nat.le_refl _, _, k1, World.ownsRow_nil _ _ _ _, by simp [Value.ownBlock]⟩
  have K0 := Lib.hid k0
  have HT := Lib.hid ht
  have l1 := tB_len x hx
  have l2 := tB_len y hy
  have l3 := tB_len m hm
  have l4 := tB_len n hn
  clear hA k0 k1 ht
  go_enter Tryd.func44, Tryd.ntmps44
  go_wp2_with fail
  refine (WriteString_sb _ (.inl rfl) s0 (by show 0 + 8 ≤ 1000000; omega) (by simp)).mono ?_
  rintro e w1 ⟨⟨v1, rfl⟩, s1, b1⟩
  have HB1 := Lib.hid (HA.out.trans (b1.mono (by omega)))
  have K1 := Lib.hid (K0.out.below b1 (by omega))
  have z1 : w.heap.size + 1 ≤ w1.heap.size := by have := b1.size; simp at this; omega
  clear b1 s0
  have q0 := K1.out.cell 0
  have q1 := K1.out.cell 1
  have q2 := K1.out.cell 2
  have q3 := K1.out.cell 3
  have q4 := K1.out.cell 4
  simp at q0 q1 q2 q3 q4
  go_wp2_with fail
  refine (IsEmpty_any x y m n true _).mono ?_
  rintro e w2 ⟨rfl, h2⟩
  have s2 := s1.below h2
  have HB2 := Lib.hid (HB1.out.trans (h2.mono HB1.out.size))
  have K2 := Lib.hid (K1.out.below h2 (by omega))
  have z2 := Nat.le_trans z1 h2.size
  clear h2 s1 q0 q1 q2 q3 q4
  go_wp2_with fail
  refine (WriteRune_sb 40 (by omega) (by omega) (.inr rfl) s2 (by simp) z2).mono ?_
  rintro e w3 ⟨⟨v3, rfl⟩, s3, b3⟩
  have HB3 := Lib.hid (HB2.out.trans (b3.mono (by omega)))
  have K3 := Lib.hid (K2.out.below b3 (by omega))
  have z3 := Nat.le_trans z2 b3.size
  clear b3 s2
  have q := K3.out.cell 0
  simp at q
  go_wp2_with fail
  refine (add_any x 32 hx (by omega) (by omega) _ s3 (by simp only [List.length_append, List.length_cons, List.length_nil]; omega) z3 (HT.out.below HB3.out)).mono ?_
  rintro e w4 ⟨⟨v4, rfl⟩, s4, b4⟩
  have HB4 := Lib.hid (HB3.out.trans (b4.mono (by omega)))
  have K4 := Lib.hid (K3.out.below b4 (by omega))
  have z4 := Nat.le_trans z3 b4.size
  clear b4 s3 q
  have q := K4.out.cell 1
  simp at q
  go_wp2_with fail
  refine (add_any y 44 hy (by omega) (by omega) _ s4 (by simp only [List.length_append, List.length_cons, List.length_nil]; omega) z4 (HT.out.below HB4.out)).mono ?_
  rintro e w5 ⟨⟨v5, rfl⟩, s5, b5⟩
  have HB5 := Lib.hid (HB4.out.trans (b5.mono (by omega)))
  have K5 := Lib.hid (K4.out.below b5 (by omega))
  have z5 := Nat.le_trans z4 b5.size
  clear b5 s4 q
  have q := K5.out.cell 2
  simp at q
  go_wp2_with fail
  refine (add_any m 32 hm (by omega) (by omega) _ s5 (by simp only [List.length_append, List.length_cons, List.length_nil]; omega) z5 (HT.out.below HB5.out)).mono ?_
  rintro e w6 ⟨⟨v6, rfl⟩, s6, b6⟩
  have HB6 := Lib.hid (HB5.out.trans (b6.mono (by omega)))
  have K6 := Lib.hid (K5.out.below b6 (by omega))
  have z6 := Nat.le_trans z5 b6.size
  clear b6 s5 q
  have q := K6.out.cell 3
  simp at q
  go_wp2_with fail
  refine (add_any n 41 hn (by omega) (by omega) _ s6 (by simp only [List.length_append, List.length_cons, List.length_nil]; omega) z6 (HT.out.below HB6.out)).mono ?_
  rintro e w7 ⟨⟨v7, rfl⟩, s7, b7⟩
  have HB7 := Lib.hid (HB6.out.trans (b7.mono (by omega)))
  have K7 := Lib.hid (K6.out.below b7 (by omega))
  have z7 := Nat.le_trans z6 b7.size
  clear b7 s6 q
  go_wp2_with fail
  refine (String_sb s7 (by simp) (by simp only [List.length_append, List.length_cons, List.length_nil]; omega) z7).mono ?_
  rintro e w8 ⟨rfl, h8⟩
  go_wp2
  go_ret
  exact ⟨congrArg (fun l : List UInt8 => Ending.returned (Value.string ⟨l.toArray⟩)) (by simp [envB]), HB7.out.trans (h8.mono (by omega))⟩


set_option maxHeartbeats 2000000 in
set_option maxRecDepth 100000 in
theorem String_not (x y m n : Nat) (w : World) :
    Calls Tryd.prog 44 #[.agg #[.float .f64 x, .float .f64 y, .float .f64 m, .float .f64 n, .bool false]] w fun e w' => e = .returned (.string ⟨#[69, 78, 86, 69, 76, 79, 80, 69, 32, 69, 77, 80, 84, 89]⟩) ∧ Below w.heap.size w w' := by
  have hA : Below w.heap.size w (w.alloc (.cells #[.float .f64 x, .float .f64 y, .float .f64 m, .float .f64 n, .bool false] 83)) := (Below.refl _ _).alloc (Nat.le_refl _) _
  have HA := Lib.hid (hA.alloc (by simp) (.cells #[.pointer none, .slice none 0 0] 109))
  have k0 := (Blk.new w 83 #[.float .f64 x, .float .f64 y, .float .f64 m, .float .f64 n, .bool false]).alloc (.cells #[.pointer none, .slice none 0 0] 109)
  have k1 := Blk.new (w.alloc (.cells #[.float .f64 x, .float .f64 y, .float .f64 m, .float .f64 n, .bool false] 83)) 109 #[.pointer none, .slice none 0 0]
  rw [World.size_alloc] at k1
  have s0 : SB (w.heap.size + 1) ((w.alloc (.cells #[.float .f64 x, .float .f64 y, .float .f64 m, .float .f64 n, .bool false] 83)).alloc (.cells #[.pointer none, .slice none 0 0] 109)) (w.heap.size + 1) (.pointer none) [] :=
    ⟨Nat.le_refl _, _, k1, World.ownsRow_nil _ _ _ _, by simp [Value.ownBlock]⟩
  have K0 := Lib.hid k0
  clear hA k0 k1
  go_enter Tryd.func44, Tryd.ntmps44
  go_wp2_with fail
  refine (WriteString_sb _ (.inl rfl) s0 (by show 0 + 8 ≤ 1000000; omega) (by simp)).mono ?_
  rintro e w1 ⟨⟨v1, rfl⟩, s1, b1⟩
  have HB1 := Lib.hid (HA.out.trans (b1.mono (by omega)))
  have K1 := Lib.hid (K0.out.below b1 (by omega))
  have z1 : w.heap.size + 1 ≤ w1.heap.size := by have := b1.size; simp at this; omega
  clear b1 s0
  have q0 := K1.out.cell 0
  have q1 := K1.out.cell 1
  have q2 := K1.out.cell 2
  have q3 := K1.out.cell 3
  have q4 := K1.out.cell 4
  simp at q0 q1 q2 q3 q4
  go_wp2_with fail
  refine (IsEmpty_any x y m n false _).mono ?_
  rintro e w2 ⟨rfl, h2⟩
  have s2 := s1.below h2
  have HB2 := Lib.hid (HB1.out.trans (h2.mono HB1.out.size))
  have z2 := Nat.le_trans z1 h2.size
  clear h2 s1 q0 q1 q2 q3 q4
  go_wp2_with fail
  refine (WriteString_sb _ (.inr rfl) s2 (by show 8 + 6 ≤ 1000000; omega) z2).mono ?_
  rintro e w3 ⟨⟨v3, rfl⟩, s3, b3⟩
  have HB3 := Lib.hid (HB2.out.trans (b3.mono (by omega)))
  have z3 := Nat.le_trans z2 b3.size
  clear b3 s2
  go_wp2_with fail
  refine (String_sb s3 (by simp) (by simp) z3).mono ?_
  rintro e w8 ⟨rfl, h8⟩
  go_wp2
  go_ret
  exact ⟨by first | rfl | simp, HB3.out.trans (h8.mono (by omega))⟩

end Go.Proofs.YtpbcfgehmalppaaDoor
