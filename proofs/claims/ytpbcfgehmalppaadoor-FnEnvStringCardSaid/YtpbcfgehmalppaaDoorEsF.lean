/- A strings.Builder that the call has made: what it holds, and its methods. -/
import Derived.Test.YtpbcfgehmalppaaDoorEsE
import Derived.Lib.UnsafeStr
import Derived.Lib.Builder
namespace Go.Proofs.YtpbcfgehmalppaaDoor
open Go.RowKit

attribute [local go_sem] run_store_float

/-- The builder in block b holds the bytes l; its rows lie at or above block B. -/
def SB (B : Nat) (w : World) (b : Nat) (p : Value) (l : List UInt8) : Prop :=
  B ≤ b ∧ ∃ v, Blk w b 109 #[p, v] ∧ w.ownsRow B 5 1 v l.length (Lib.byteCells l) ∧ v.ownBlock ≠ some b

theorem SB.below {B b : Nat} {w w' : World} {p : Value} {l : List UInt8} (h : SB B w b p l) (hb : Below w.heap.size w w') : SB B w' b p l := by
  obtain ⟨h1, v, h2, h3, h4⟩ := h
  refine ⟨h1, v, h2.below hb h2.lt, h3.kept (only_of_below hb none) ?_, h4⟩
  cases v.ownBlock <;> simp
theorem SB.drewN {B b : Nat} {w : World} {p : Value} {l : List UInt8} (h : SB B w b p l) : SB B w.drew b p l := h

theorem bld_info : (Tryd.prog.info? 109).map (·.size) = some 2 := by kernel_rfl
theorem bld_lies : liesAt Tryd.prog Tryd.prog.depth 109 (2 / Tryd.prog.cellsOf 109) 0 109 1 = true := by kernel_rfl

set_option maxHeartbeats 1000000 in
set_option maxRecDepth 100000 in
theorem copyCheck_used (b : Nat) (w : World) (h0 : w.cell? ⟨b, 0, none⟩ = some (.pointer (some ⟨b, 0, none⟩))) :
    Calls Tryd.prog 76 #[.pointer (some ⟨b, 0, none⟩)] w fun e w' => e = .returned (.tuple #[]) ∧ w' = w := by
  obtain ⟨j, hj, _⟩ := Option.map_eq_some_iff.1 bld_info
  go_enter Tryd.func76, Tryd.ntmps76
  go_wp2
  rw [Lib.run_neq_ptr_same w _ Tryd.underlying107 hj]
  go_wp2
  go_end0
  exact ⟨rfl, rfl⟩

set_option maxHeartbeats 1000000 in
set_option maxRecDepth 100000 in
theorem copyCheck_fresh (b : Nat) (w : World) (h0 : w.cell? ⟨b, 0, none⟩ = some (.pointer none)) (hsh : w.shape? b = some (109, 2)) (hfz : w.frozen? ⟨b, 0, none⟩ = false) :
    Calls Tryd.prog 76 #[.pointer (some ⟨b, 0, none⟩)] w fun e w' => e = .returned (.tuple #[]) ∧ w' = w.setCell ⟨b, 0, none⟩ (.pointer (some ⟨b, 0, none⟩)) := by
  obtain ⟨j, hj, hjs⟩ := Option.map_eq_some_iff.1 bld_info
  go_enter Tryd.func76, Tryd.ntmps76
  go_wp2
  rw [Lib.run_to_unsafe w ⟨b, 0, none⟩ Tryd.underlying107 Tryd.underlying149 hj (by rw [hjs]; decide) hsh (Nat.zero_lt_succ 1)]
  simp only [Result.andThen]
  rw [Oper.upon_value]
  go_wp2
  rw [run_callFunc_extern Tryd.func98 (by kernel_rfl) (by kernel_rfl) (by kernel_rfl) (e := Extern.AbiNoEscape.same) (by kernel_rfl)]
  rw [Lib.run_noEscape]
  simp only [Result.andThen]
  rw [Oper.upon_value]
  go_wp2
  rw [Lib.run_from_unsafe w ⟨b, 0, none⟩ Tryd.underlying149 Tryd.underlying107 hj hsh bld_lies]
  simp only [Result.andThen]
  rw [Oper.upon_value]
  go_wp2
  go_end0
  exact ⟨rfl, rfl⟩

theorem copyCheck_sb {B b : Nat} {w : World} {p : Value} {l : List UInt8} (hp : p = .pointer none ∨ p = .pointer (some ⟨b, 0, none⟩)) (h : SB B w b p l) :
    Calls Tryd.prog 76 #[.pointer (some ⟨b, 0, none⟩)] w fun e w' => e = .returned (.tuple #[]) ∧ SB B w' b (.pointer (some ⟨b, 0, none⟩)) l ∧ Below B w w' := by
  obtain ⟨h1, v, h2, h3, h4⟩ := h
  rcases hp with rfl | rfl
  · have c0 := h2.cell 0
    simp at c0
    refine (copyCheck_fresh b w c0 (by have h : w.heap[b]? = some (.cells #[.pointer none, v] 109 (0, 0)) := h2; simp [World.shape?, h]) (h2.frozen 0)).mono ?_
    rintro e w' ⟨rfl, rfl⟩
    refine ⟨rfl, ⟨h1, v, by simpa using h2.set_ 0 (.pointer (some ⟨b, 0, none⟩)), h3.kept (only_setCell (World.grownBy.refl w (some b)) (.inl rfl) _) ?_, h4⟩, below_setCell' (Below.refl _ _) h1 _⟩
    exact .inr h4
  · have c0 := h2.cell 0
    simp at c0
    refine (copyCheck_used b w c0).mono ?_
    rintro e w' ⟨rfl, rfl⟩
    exact ⟨rfl, ⟨h1, v, h2, h3, h4⟩, Below.refl _ _⟩

theorem u8_info : (Tryd.prog.info? 5).map (fun i => (i.zero, i.size, i.bytes)) = some (some (.int .u8 0), 1, 1) := by kernel_rfl

theorem own_ne {B b n : Nat} {w : World} {a0 a1 v : Value} {xs : List Value} (hk : Blk w b 109 #[a0, a1]) (ho : w.ownsRow B 5 1 v n xs) : v.ownBlock ≠ some b := by
  rcases ho.2 with ⟨rfl, _⟩ | ⟨g, cap, cur, rfl, hg, hh, _⟩
  · simp [Value.ownBlock]
  · intro e
    have e : some g = some b := e
    injection e with e
    subst e
    have hk' : w.heap[g]? = some (.cells #[a0, a1] 109 (0, 0)) := hk
    rw [hh] at hk'
    injection hk' with hk'
    injection hk' with _ h2 _
    exact absurd h2 (by decide)
theorem SB.put {B b n : Nat} {w2 : World} {p v v' : Value} {xs : List Value} {l : List UInt8} (hB : B ≤ b) (hk : Blk w2 b 109 #[p, v]) (ho : w2.ownsRow B 5 1 v' n xs) (hn : n = l.length) (hx : xs = Lib.byteCells l) :
    SB B (w2.setCell ⟨b, 1, none⟩ v') b p l := by
  subst hn hx
  have hne := own_ne hk ho
  exact ⟨hB, v', by simpa using hk.set_ 1 v', ho.kept (only_setCell (World.grownBy.refl w2 (some b)) (.inl rfl) _) (.inr hne), hne⟩
theorem below_up {B : Nat} {w w1 w2 : World} {v : Value} {n : Nat} {xs : List Value} (hb : Below B w w1) (hBw : B ≤ w1.heap.size) (ho : w1.ownsRow B 5 1 v n xs) (hg : w1.grownBy w2 v.ownBlock) : Below B w w2 := by
  refine hb.trans ⟨hg.os, hg.tape, hg.output, hg.size, fun i hi => hg.block i (Nat.lt_of_lt_of_le hi hBw) ?_⟩
  intro e
  rcases ho.2 with ⟨rfl, _⟩ | ⟨g, cap, cur, rfl, hgB, _⟩
  · simp [Value.ownBlock] at e
  · have e : some i = some g := e
    injection e with e
    omega

set_option maxHeartbeats 2000000 in
set_option maxRecDepth 100000 in
theorem WriteString_sb {B b : Nat} {w : World} {p : Value} {l : List UInt8} (s : ByteArray) (hp : p = .pointer none ∨ p = .pointer (some ⟨b, 0, none⟩)) (h : SB B w b p l) (hl : l.length + s.size ≤ 1000000) (hBw : B ≤ w.heap.size) :
    Calls Tryd.prog 62 #[.pointer (some ⟨b, 0, none⟩), .string s] w fun e w' => (∃ r, e = .returned r) ∧ SB B w' b (.pointer (some ⟨b, 0, none⟩)) (l ++ s.data.toList) ∧ Below B w w' := by
  obtain ⟨i0, hi, hz0, hz1, hz2⟩ := info_parts u8_info
  have hcc := copyCheck_sb hp h
  have HCC := Lib.hid hcc
  clear hcc h
  go_enter Tryd.func62, Tryd.ntmps62
  go_wp2_with fail
  refine HCC.out.mono ?_
  rintro e w1 ⟨rfl, ⟨h1, v, h2, h3, h4⟩, hb1⟩
  have c0 := h2.cell 0
  have c1 := h2.cell 1
  simp at c0 c1
  have hs1 := hb1.size
  go_wp2_with (at_builtin; refine Lib.wpList_append_own_string _ rfl _ _ 32 9 rfl B 5 i0 Tryd.underlying32 Tryd.underlying9 hi hz0 hz1 hz2 _ _ _ rfl h3 s rfl (by unfold maxLen; omega) (by omega) (by omega) ?_)
  intro v' w2 ho hg _
  have k2 : Blk w2 b 109 #[.pointer (some ⟨b, 0, none⟩), v] := (hg.block b h2.lt (fun e => h4 e.symm)).trans h2
  have d0 := k2.cell 0
  have d1 := k2.cell 1
  have y1 := k2.frozen 1
  simp at d0 d1
  have hbl := below_up hb1 (by omega) h3 hg
  obtain ⟨ao, n', cap, rfl⟩ : ∃ ao n' cap, v' = .slice ao n' cap := by
    rcases ho.2 with ⟨hv, _⟩ | ⟨g, cap, cur, hv, _⟩
    · exact ⟨_, _, _, hv⟩
    · exact ⟨_, _, _, hv⟩
  have HO := Lib.hid ho
  clear h2 h3 h4 hg ho
  go_wp2
  go_ret2
  exact ⟨⟨_, rfl⟩, SB.put h1 k2 HO.out (by rw [List.length_append]; rfl) (by rw [Lib.byteCells_append]; rfl), below_setCell' hbl h1 _⟩

set_option maxRecDepth 100000 in
theorem AppendRune_own {B n : Nat} {w : World} {v : Value} {xs : List Value} (r : Int) (h0 : 0 ≤ r) (h1 : r ≤ 127) (h : w.ownsRow B 5 1 v n xs) (hn : n ≤ 1000000) (hB : B ≤ w.heap.size) :
    Calls Tryd.prog 77 #[v, .int .i32 r] w fun e w' => ∃ v', e = .returned v' ∧ w'.ownsRow B 5 1 v' (n + 1) (xs ++ [.int .u8 r]) ∧ w.grownBy w' v.ownBlock := by
  obtain ⟨i0, hi, hz0, hz1, hz2⟩ := info_parts u8_info
  have H := Lib.hid h
  have hkb := Blk.new w 5 #[.int .u8 r]
  clear h
  go_enter Tryd.func77, Tryd.ntmps77
  have hrd : Reads (w.alloc (.cells #[.int .u8 r] 5)) (w.heap.size + 1) 1 (some ⟨w.heap.size, 0, none⟩) 1 [.int .u8 r] := by
    refine ⟨rfl, fun _ => ⟨_, rfl, Nat.lt_succ_self _, fun j u hu => ?_⟩⟩
    have hj : j = 0 := by have := (List.getElem?_eq_some_iff.1 hu).1; simpa using this
    subst hj
    have hu' : Value.int .u8 r = u := by simpa using hu
    subst hu'
    exact hkb.cell 0
  go_wp2_with (at_builtin; refine wpList_append_any _ rfl _ _ _ rfl B 5 i0 (.int .u8 0) 1 1 Tryd.underlying32 hi hz0 hz1 hz2 rfl (by decide) _ n xs rfl (by exact World.ownsRow.alloc H.out _) _ _ 1 _ [.int .u8 r] rfl (by exact hrd) (by simp [Value.oneCell']) (by simp only [maxLen]; omega) (by omega) (by simp; omega) ?_)
  intro v1 w1 ho hg _
  go_wp2
  go_ret
  exact ⟨_, rfl, ho, (World.grownBy_alloc w _ _).trans hg⟩

set_option maxHeartbeats 2000000 in
set_option maxRecDepth 100000 in
theorem WriteRune_sb {B b : Nat} {w : World} {p : Value} {l : List UInt8} (r : Int) (h0 : 0 ≤ r) (h1 : r ≤ 127) (hp : p = .pointer none ∨ p = .pointer (some ⟨b, 0, none⟩)) (h : SB B w b p l) (hl : l.length ≤ 900000) (hBw : B ≤ w.heap.size) :
    Calls Tryd.prog 65 #[.pointer (some ⟨b, 0, none⟩), .int .i32 r] w fun e w' => (∃ r, e = .returned r) ∧ SB B w' b (.pointer (some ⟨b, 0, none⟩)) (l ++ [UInt8.ofNat r.toNat]) ∧ Below B w w' := by
  have hcc := copyCheck_sb hp h
  have HCC := Lib.hid hcc
  clear hcc h
  go_enter Tryd.func65, Tryd.ntmps65
  go_wp2_with fail
  refine HCC.out.mono ?_
  rintro e w1 ⟨rfl, ⟨h1', v, h2, h3, h4⟩, hb1⟩
  have c0 := h2.cell 0
  have c1 := h2.cell 1
  simp at c0 c1
  have hs1 := hb1.size
  obtain ⟨ao, n', cap, rfl⟩ : ∃ ao n' cap, v = .slice ao n' cap := by
    rcases h3.2 with ⟨hv, _⟩ | ⟨g, cap, cur, hv, _⟩
    · exact ⟨_, _, _, hv⟩
    · exact ⟨_, _, _, hv⟩
  go_wp2_with fail
  refine (AppendRune_own r h0 h1 h3 (by omega) (by omega)).mono ?_
  rintro e w2 ⟨v', rfl, ho, hg⟩
  have k2 : Blk w2 b 109 #[.pointer (some ⟨b, 0, none⟩), .slice ao n' cap] := (hg.block b h2.lt (fun e => h4 e.symm)).trans h2
  have d0 := k2.cell 0
  have d1 := k2.cell 1
  have y1 := k2.frozen 1
  simp at d0 d1
  have hbl := below_up hb1 (by omega) h3 hg
  obtain ⟨ao2, n2, cap2, rfl⟩ : ∃ ao n' cap, v' = .slice ao n' cap := by
    rcases ho.2 with ⟨hv, _⟩ | ⟨g, cap, cur, hv, _⟩
    · exact ⟨_, _, _, hv⟩
    · exact ⟨_, _, _, hv⟩
  have hcs : Lib.byteCells l ++ [.int .u8 r] = Lib.byteCells (l ++ [UInt8.ofNat r.toNat]) := by
    rw [Lib.byteCells_append]
    congr 1
    unfold Lib.byteCells
    simp
    omega
  have hnn : (n2 : Int) - (n' : Int) = 1 ∨ True := .inr trivial
  have HO := Lib.hid ho
  have t1 : (w2.setCell ⟨b, 1, none⟩ (.slice ao2 n2 cap2)).cell? ⟨b, 1, none⟩ = some (.slice ao2 n2 cap2) := by simpa using (k2.set_ 1 (.slice ao2 n2 cap2)).cell 1
  clear h2 h3 h4 hg ho hnn
  go_wp2
  go_ret2
  exact ⟨⟨_, rfl⟩, SB.put h1' k2 HO.out (by rw [List.length_append]; rfl) hcs, below_setCell' hbl h1' _⟩

end Go.Proofs.YtpbcfgehmalppaaDoor
