/- Leaf functions of the float writer: logarithms, roundings, the 128-bit product and the scaling, each as a plain function of whole numbers. -/
import Derived.Test.YtpbcfgehmalppaaGreatDoorWd
import Derived.Below
import Derived.Deep.Draws
import Derived.WalkKit
import Derived.KernelRfl
import Derived.Laws.Rows
import Derived.Laws.MathBits
import Derived.Lib.Hide
import Derived.WalkLawsBesides
import Derived.Outline
import Derived.Deep.QuietTactic
import Derived.BigQuiet
namespace Go.Proofs.YtpbcfgehmalppaaGreatDoor
open Go.RowKit

theorem log10Pow2_any (x : Int) (h0 : -100000 ≤ x) (h1 : x ≤ 100000) (w : World) :
    Calls Tryz.prog 156 #[.int .i64 x] w fun e w' => e = .returned (.int .i64 (x * 78913 / 262144)) ∧ w' = w := by
  go_enter Tryz.func156, Tryz.ntmps156
  go_wp2
  go_ret
  exact ⟨rfl, rfl⟩

theorem log2Pow10_any (x : Int) (h0 : -100000 ≤ x) (h1 : x ≤ 100000) (w : World) :
    Calls Tryz.prog 167 #[.int .i64 x] w fun e w' => e = .returned (.int .i64 (x * 108853 / 32768)) ∧ w' = w := by
  go_enter Tryz.func167, Tryz.ntmps167
  go_wp2
  go_ret
  exact ⟨rfl, rfl⟩

theorem skewed_any (x : Int) (h0 : -100000 ≤ x) (h1 : x ≤ 100000) (w : World) :
    Calls Tryz.prog 165 #[.int .i64 x] w fun e w' => e = .returned (.int .i64 ((x * 631305 - 261663) / 2097152)) ∧ w' = w := by
  go_enter Tryz.func165, Tryz.ntmps165
  go_wp2
  go_ret
  exact ⟨rfl, rfl⟩

def b2i (b : Bool) : Int := if b then 1 else 0

theorem bool2_any (b : Bool) (w : World) :
    Calls Tryz.prog 186 #[.bool b] w fun e w' => e = .returned (.int .u64 (b2i b)) ∧ w' = w := by
  cases b <;>
  · go_enter Tryz.func186, Tryz.ntmps186
    go_wp2
    go_ret
    exact ⟨rfl, rfl⟩

theorem u64w0 (n : Int) : IntKind.u64.wrap n = n % 18446744073709551616 := rfl

theorem nudge_any (x d : Int) (w : World) :
    Calls Tryz.prog 169 #[.int .u64 x, .int .i64 d] w fun e w' => e = .returned (.int .u64 (IntKind.u64.wrap (x + d))) ∧ w' = w := by
  have h : IntKind.u64.wrap (x + d) = IntKind.u64.wrap (x + IntKind.u64.wrap d) := by simp only [u64w0]; omega
  rw [h]
  clear h
  go_enter Tryz.func169, Tryz.ntmps169
  go_wp2
  go_ret
  exact ⟨rfl, rfl⟩

theorem ceil_any (x : Int) (w : World) :
    Calls Tryz.prog 170 #[.int .u64 x] w fun e w' => e = .returned (.int .u64 (IntKind.u64.wrap (x + 3) / 4)) ∧ w' = w := by
  go_enter Tryz.func170, Tryz.ntmps170
  go_wp2
  go_ret
  exact ⟨rfl, rfl⟩

theorem floor_any (x : Int) (h0 : 0 ≤ x) (h1 : x ≤ 18446744073709551615) (w : World) :
    Calls Tryz.prog 171 #[.int .u64 x] w fun e w' => e = .returned (.int .u64 (x / 4)) ∧ w' = w := by
  go_enter Tryz.func171, Tryz.ntmps171
  go_wp2
  go_ret
  exact ⟨rfl, rfl⟩

theorem u64w (n : Int) : IntKind.u64.wrap n = n % 18446744073709551616 := rfl
theorem u64_and1 (z : Int) (h0 : 0 ≤ z) (h1 : z < 18446744073709551616) : bits .and .u64 z 1 = z % 2 := by go_bits2

theorem round_any (x : Int) (h0 : 0 ≤ x) (h1 : x ≤ 18446744073709551615) (w : World) :
    Calls Tryz.prog 172 #[.int .u64 x] w fun e w' => e = .returned (.int .u64 (IntKind.u64.wrap (x + 1 + x / 4 % 2) / 4)) ∧ ∃ n, w' = w.drewN n := by
  go_enter Tryz.func172, Tryz.ntmps172
  go_wp2
  go_ret
  refine ⟨?_, 0, rfl⟩
  show Ending.returned (Value.int IntKind.u64 (IntKind.u64.wrap (IntKind.u64.wrap (x + 1) + bits BinOp.and IntKind.u64 (x / 4) 1) / 4)) = _
  have e1 : bits BinOp.and IntKind.u64 (x / 4) 1 = x / 4 % 2 := u64_and1 _ (by omega) (by omega)
  rw [e1, u64w, u64w, u64w]
  congr 3
  omega

theorem mul64_any (x y : Int) (hx0 : 0 ≤ x) (hx1 : x ≤ 18446744073709551615) (hy0 : 0 ≤ y) (hy1 : y ≤ 18446744073709551615) (w : World) :
    Calls Tryz.prog 185 #[.int .u64 x, .int .u64 y] w fun e w' => e = .returned (.tuple #[.int .u64 (x * y / 18446744073709551616), .int .u64 (x * y % 18446744073709551616)]) ∧ w' = w := by
  have a1 := and_low32 x hx0 (by omega)
  have a2 := and_low32 y hy0 (by omega)
  go_enter Tryz.func185, Tryz.ntmps185
  go_wp2
  go_ret2
  refine ⟨?_, rfl⟩
  generalize hB : x / 4294967296 * (y % 4294967296) = B
  show Ending.returned (Value.tuple #[Value.int IntKind.u64 _, Value.int IntKind.u64 (IntKind.u64.wrap (x * y))]) = _
  have e3 := and_low32 (IntKind.u64.wrap (IntKind.u64.wrap B + IntKind.u64.wrap (x % 4294967296 * (y % 4294967296)) / 4294967296)) (by rw [u64w]; omega) (by rw [u64w]; omega)
  rw [e3]
  simp only [u64w]
  subst hB
  rw [mul64_arith x y hx0 (by omega) hy0 (by omega)]

def uscT (w : World) (g : Nat) (hi lo s : Int) : Prop :=
  w.cell? ⟨g, 0, none⟩ = some (.int .u64 hi) ∧ w.cell? ⟨g, 1, none⟩ = some (.int .u64 lo) ∧ w.cell? ⟨g, 2, none⟩ = some (.int .i64 s)

theorem i64_and63 (k : Nat) (hk : k ≤ 63) : bits BinOp.and .i64 (k : Int) 63 = k := by
  have h : ∀ j, j < 64 → bits BinOp.and .i64 ((j : Nat) : Int) 63 = j := by decide +kernel
  exact h k (by omega)

/-- What the scaling gives: the product's upper part, shifted, with a last bit that tells whether anything was left over. -/
def uscaleV (x hi lo : Int) (k : Nat) : Int :=
  if IntKind.u64.wrap (x * hi / 18446744073709551616 / 2 ^ k * 2 ^ k) = x * hi / 18446744073709551616 then
    bits .or .u64 (IntKind.u64.wrap (x * hi / 18446744073709551616 - b2i (decide (x * hi % 18446744073709551616 < x * lo / 18446744073709551616))) / 2 ^ k)
      (b2i (decide (IntKind.u64.wrap (x * hi % 18446744073709551616 - x * lo / 18446744073709551616) > 1)))
  else bits .or .u64 (x * hi / 18446744073709551616 / 2 ^ k) 1

theorem uscale_any (x hi lo : Int) (k g : Nat) (hx0 : 0 ≤ x) (hx1 : x ≤ 18446744073709551615) (hh0 : 0 ≤ hi) (hh1 : hi ≤ 18446744073709551615) (hl0 : 0 ≤ lo) (hl1 : lo ≤ 18446744073709551615)
    (hk : k ≤ 63) (w : World) (hc : uscT w g hi lo k) :
    Calls Tryz.prog 168 #[.int .u64 x, .pointer (some ⟨g, 0, none⟩)] w fun e w' => e = .returned (.int .u64 (uscaleV x hi lo k)) ∧ ∃ n, w' = w.drewN n := by
  obtain ⟨c0, c1, c2⟩ := hc
  have h63 := i64_and63 k hk
  have hmin : min ((k : Int)).toNat 64 = k := by omega
  by_cases hd : IntKind.u64.wrap (x * hi / 18446744073709551616 / 2 ^ k * 2 ^ k) = x * hi / 18446744073709551616
  · have hv : uscaleV x hi lo k = bits .or .u64 (IntKind.u64.wrap (x * hi / 18446744073709551616 - b2i (decide (x * hi % 18446744073709551616 < x * lo / 18446744073709551616))) / 2 ^ k)
      (b2i (decide (IntKind.u64.wrap (x * hi % 18446744073709551616 - x * lo / 18446744073709551616) > 1))) := by unfold uscaleV; rw [if_pos hd]
    rw [hv]
    have hb : (IntKind.u64.wrap (x * hi / 18446744073709551616 / 2 ^ k * 2 ^ k) != x * hi / 18446744073709551616) = false := by simpa using hd
    clear hv hd
    go_enter Tryz.func168, Tryz.ntmps168
    go_wp2_with (first | (go_at_call 185; refine (mul64_any _ _ (by assumption) (by assumption) (by assumption) (by assumption) _).mono ?_; rintro e w' ⟨rfl, rfl⟩) | (go_at_call 186; refine (bool2_any _ _).mono ?_; rintro e w' ⟨rfl, rfl⟩))
    all_goals
      go_quiet ((go_at_call 186; exact Calls.quiet_of_same (bool2_any _ _)))
      all_goals (go_wp2; go_ret; exact ⟨rfl, _, rfl⟩)
  · have hv : uscaleV x hi lo k = bits .or .u64 (x * hi / 18446744073709551616 / 2 ^ k) 1 := by unfold uscaleV; rw [if_neg hd]
    rw [hv]
    have hb : (IntKind.u64.wrap (x * hi / 18446744073709551616 / 2 ^ k * 2 ^ k) != x * hi / 18446744073709551616) = true := by simpa using hd
    clear hv hd
    go_enter Tryz.func168, Tryz.ntmps168
    go_wp2_with (go_at_call 185; refine (mul64_any _ _ (by assumption) (by assumption) (by assumption) (by assumption) _).mono ?_; rintro e w' ⟨rfl, rfl⟩)
    go_ret
    exact ⟨rfl, 0, rfl⟩

/-- The place where the powers of ten lie: block g. -/
def Pow10 (w : World) (hi lo : Nat → Int) : Prop :=
  ∀ i, i < 696 → w.cell? ⟨3, i * 2, none⟩ = some (.int .u64 (hi i)) ∧ w.cell? ⟨3, i * 2 + 1, none⟩ = some (.int .u64 (lo i))

theorem prescale_at (e_ lp : Int) (i g : Nat) (a b c : Value) (hi lo : Nat → Int) (he0 : -100000 ≤ e_) (he1 : e_ ≤ 100000) (hi' : i < 696) (hl0 : -100000 ≤ lp) (hl1 : lp ≤ 100000) (w : World) (ht : Pow10 w hi lo)
    (hg : Blk w g 186 #[a, b, c]) (hne : g ≠ 3) :
    Calls Tryz.prog 166 #[.pointer (some ⟨g, 0, none⟩), .int .i64 e_, .int .i64 ((i : Int) - 348), .int .i64 lp] w fun e w' => e = .returned (.tuple #[]) ∧
      Blk w' g 186 #[.int .u64 (hi i), .int .u64 (lo i), .int .i64 (-(e_ + lp + 3))] ∧ w.grownBy w' (some g) := by
  obtain ⟨t0, t1⟩ := ht i hi'
  have c0 : w.cell? ⟨g, 0, none⟩ = some a := hg.cell 0
  have c1 : w.cell? ⟨g, 1, none⟩ = some b := hg.cell 1
  have c2 : w.cell? ⟨g, 2, none⟩ = some c := hg.cell 2
  have f0 := hg.frozen 0
  have f1 := hg.frozen 1
  have f2 := hg.frozen 2
  have hfin : Blk (((w.setCell ⟨g, 0, none⟩ (.int .u64 (hi i))).setCell ⟨g, 1, none⟩ (.int .u64 (lo i))).setCell ⟨g, 2, none⟩ (.int .i64 (-(e_ + lp + 3)))) g 186 #[.int .u64 (hi i), .int .u64 (lo i), .int .i64 (-(e_ + lp + 3))] := by
    simpa using ((hg.set_ 0 (.int .u64 (hi i))).set_ 1 (.int .u64 (lo i))).set_ 2 (.int .i64 (-(e_ + lp + 3)))
  have hgr : w.grownBy (((w.setCell ⟨g, 0, none⟩ (.int .u64 (hi i))).setCell ⟨g, 1, none⟩ (.int .u64 (lo i))).setCell ⟨g, 2, none⟩ (.int .i64 (-(e_ + lp + 3)))) (some g) :=
    only_setCell (p := ⟨g, 2, none⟩) (only_setCell (p := ⟨g, 1, none⟩) (only_setCell (p := ⟨g, 0, none⟩) (World.grownBy.refl w (some g)) (.inl rfl) _) (.inl rfl) _) (.inl rfl) _
  have HF := Lib.hid hfin
  have HR := Lib.hid hgr
  have HG := Lib.hid hg
  clear hfin hg ht hgr
  go_enter Tryz.func166, Tryz.ntmps166
  go_wp2
  go_end0
  exact ⟨rfl, HF.out, HR.out⟩

theorem prescale_any (e_ p lp : Int) (g : Nat) (a b c : Value) (hi lo : Nat → Int) (he0 : -100000 ≤ e_) (he1 : e_ ≤ 100000) (hp0 : -348 ≤ p) (hp1 : p ≤ 347) (hl0 : -100000 ≤ lp) (hl1 : lp ≤ 100000) (w : World) (ht : Pow10 w hi lo)
    (hg : Blk w g 186 #[a, b, c]) (hne : g ≠ 3) :
    Calls Tryz.prog 166 #[.pointer (some ⟨g, 0, none⟩), .int .i64 e_, .int .i64 p, .int .i64 lp] w fun e w' => e = .returned (.tuple #[]) ∧
      Blk w' g 186 #[.int .u64 (hi (p + 348).toNat), .int .u64 (lo (p + 348).toNat), .int .i64 (-(e_ + lp + 3))] ∧ w.grownBy w' (some g) := by
  have e : p = (((p + 348).toNat : Nat) : Int) - 348 := by omega
  have h := prescale_at e_ lp (p + 348).toNat g a b c hi lo he0 he1 (by omega) hl0 hl1 w ht hg hne
  rwa [← e] at h

end Go.Proofs.YtpbcfgehmalppaaGreatDoor
