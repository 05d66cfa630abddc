/- Contracts that are given by hand to what is printed: numbers' texts over the tables, a sequence, a place out of it. -/
import Derived.Test.YtpbcfgehmalppaaGreatDoorFtK
import Derived.Test.YtpbcfgehmalppaaGreatDoorKGet
import Derived.Test.YtpbcfgehmalppaaGreatDoorKSeq
namespace Go.Proofs.YtpbcfgehmalppaaGreatDoorW.PrintWords
open Go.RowKit Go.Proofs.YtpbcfgehmalppaaGreatDoor

/-- The tables of the float writer lie where the program has them. -/
def Glob (w : World) : Prop := FtTabs w hiT loT
theorem Glob.below {w w' : World} (h : Glob w) (hb : Below w.heap.size w w') : Glob w' := FtTabs.below h hb

section
variable {P : Program} {ops : Array Oper} {rest : List Oper} {o : Oper} {a : Act} {Q : Exit → Act → World → Prop}
/-- A string appended to a row of bytes of the call's own, or to one that came in: what it holds, and where it lies. -/
theorem app_str_at {w0 W : World} (base : Nat) (hgd : o.guard = none) (s x : Operand) (t u : TypeId)
    (ho : o.op = .call { callee := .builtin .append, args := #[s, x], argTypes := #[t, u] })
    (ht : P.underlying t = some (.slice 5)) (hu : P.underlying u = some .string) (hinfo : (P.info? 5).map (fun i => (i.zero, i.size, i.bytes)) = some (some (.int .u8 0), 1, 1))
    (v : Value) (xs : List Int) (y : ByteArray) (ok : Nat → Prop) (hs : a.eval s = v) (hx : a.eval x = .string y) (hfresh : ∀ k, W.heap.size ≤ k → ok k)
    (HO : (Kd.int .u8).R 5 W base ok v xs) (HB : Below base w0 W) (hbase : base ≤ W.heap.size) (hl : xs.length + y.size ≤ 140737488355328)
    (h : ∀ v1 w1, (Kd.int .u8).R 5 w1 base ok v1 (xs ++ bytesOf y) → Below base w0 w1 → W.grownBy w1 v.ownBlock → (v1.ownBlock = v.ownBlock ∨ ∃ b, v1.ownBlock = some b ∧ W.heap.size ≤ b) → wpList P ops Q rest (a.put o.dst v1) w1) :
    wpList P ops Q (o :: rest) a W := by
  obtain ⟨i0, hi, hzz⟩ := Option.map_eq_some_iff.1 hinfo
  simp only [Prod.mk.injEq] at hzz
  obtain ⟨hz0, hz1, hz2⟩ := hzz
  have hown := own_weaken (Kd.own_of_R HO) (Nat.zero_le base)
  have hb0 : ∀ k, v.ownBlock = some k → base ≤ k := Kd.R_base HO
  refine wpList_plain hgd fun K hK => ?_
  obtain ⟨v1, W1, hrun, h1⟩ := run_bf_append_str (P := P) y o.type t u i0 ht hu hi hz0 hz1 hz2 (Bf.start (bs := xs) hown) hl
  unfold Oper.wp execOp
  simp only [ho, resolve, invoke, builtin, Sem.run_bind, Sem.run_pure, Result.andThen_ok, List.map_toArray, List.map_cons, List.map_nil, hs, hx, hrun]
  have hpl : v1.ownBlock = v.ownBlock ∨ ∃ b, v1.ownBlock = some b ∧ W.heap.size ≤ b := h1.place
  have hok : ∀ k, v1.ownBlock = some k → ok k ∧ base ≤ k := fun k hk => by
    rcases hpl with e | ⟨g, e, hg⟩
    · exact ⟨HO.1 k (e ▸ hk), hb0 k (e ▸ hk)⟩
    · rw [e] at hk
      injection hk with hk
      subst hk
      exact ⟨hfresh g hg, Nat.le_trans hbase hg⟩
  refine hK _ _ (h v1 W1 (Kd.R_of_own ?_ (fun k hk => (hok k hk).1)) ?_ h1.grown hpl)
  · refine ⟨h1.own.1, ?_⟩
    rcases h1.own.2 with hx | ⟨g, cap, cur, hv, _, hr⟩
    · exact .inl hx
    · exact .inr ⟨g, cap, cur, hv, (hok g (by rw [hv]; rfl)).2, hr⟩
  · exact HB.trans ⟨h1.grown.os, h1.grown.tape, h1.grown.output, h1.grown.size, fun i hi => h1.grown.block i (by omega) (fun e => by have := hb0 i e.symm; omega)⟩
end

/-- A number's text. -/
def numT (b : Nat) : List Int := ftoaV hiT loT b

theorem bytes_encs (bs : List Int) : bytesV bs = encs (Value.int .u8) bs := rfl

def geom_appendFloat.f (l0 : List Int) (a1 : Nat) : Option (List Int) := if a1 < 18446744073709551616 ∧ l0.length ≤ 70368744177664 then some (l0 ++ numT a1) else none
theorem geom_appendFloat.calls (P0_ : Nat → Prop) (u9000_ : Value) (l0 : List Int) (a1 : Nat) (r : List Int) (w0 w : World) (hB : Below w0.heap.size w0 w) (ho0 : Kd.R (Kd.int .u8) 5 w w0.heap.size P0_ u9000_ l0) (hG : Glob w0) (h : geom_appendFloat.f l0 a1 = some r) :
    Calls Tryz.prog 138 #[u9000_, .float .f64 a1] w fun e w' => ∃ v0_ : Value, e = .returned (v0_) ∧ Kd.R (Kd.int .u8) 5 w' w0.heap.size (fun k_ => (P0_ k_ ∨ w.heap.size ≤ k_)) v0_ r ∧ Below w0.heap.size w0 w' ∧ Kept w w' (fun k_ => P0_ k_) := by
  unfold geom_appendFloat.f at h
  split at h
  · rename_i hh
    obtain ⟨hb, hl⟩ := hh
    obtain rfl := Option.some.inj h
    have hown := Kd.own_of_R ho0
    have hbase : ∀ k, u9000_.ownBlock = some k → w0.heap.size ≤ k := Kd.R_base ho0
    refine (appendFloat_any a1 hiT loT w u9000_ l0 (own_weaken hown (Nat.zero_le _)) (Glob.below hG hB) hb hl).mono ?_
    rintro e w1 ⟨v1, rfl, h1⟩
    have hS : ∀ i, i < w.heap.size → ¬ P0_ i → w1.heap[i]? = w.heap[i]? := fun i hi hn => h1.grown.block i hi (fun e => hn (ho0.1 i e.symm))
    have hBw : Below w0.heap.size w0 w1 := hB.trans ⟨h1.grown.os, h1.grown.tape, h1.grown.output, h1.grown.size, fun i hi => h1.grown.block i (Nat.lt_of_lt_of_le hi hB.size) (fun e => by have := hbase i e.symm; omega)⟩
    have hpl : ∀ k, v1.ownBlock = some k → (P0_ k ∨ w.heap.size ≤ k) ∧ w0.heap.size ≤ k := fun k hk => by
      rcases h1.place with e | ⟨g, e, hg⟩
      · exact ⟨.inl (ho0.1 k (e ▸ hk)), hbase k (e ▸ hk)⟩
      · rw [e] at hk
        injection hk with hk
        subst hk
        exact ⟨.inr hg, Nat.le_trans hB.size hg⟩
    refine ⟨v1, rfl, Kd.R_of_own ?_ (fun k hk => (hpl k hk).1), hBw, h1.grown.size, hS⟩
    have ho := h1.own
    refine ⟨ho.1, ?_⟩
    rcases ho.2 with hx | ⟨g, cap, cur, hv, _, hr⟩
    · exact .inl hx
    · exact .inr ⟨g, cap, cur, hv, (hpl g (by rw [hv]; rfl)).2, hr⟩
  · cases h

def spec_WriteNumber.f (a0 : Nat) : Option ByteArray := if a0 < 18446744073709551616 then some (strOfNums (numT a0)) else none
theorem spec_WriteNumber.calls (a0 : Nat) (r : ByteArray) (w : World) (hG : Glob w) (h : spec_WriteNumber.f a0 = some r) :
    Calls Tryz.prog 110 #[.float .f64 a0] w fun e w' => e = .returned (.string r) ∧ Below w.heap.size w w' := by
  unfold spec_WriteNumber.f at h
  split at h
  · rename_i hb
    obtain rfl := Option.some.inj h
    exact WriteNumber_any a0 hiT loT w hG hb
  · cases h

end Go.Proofs.YtpbcfgehmalppaaGreatDoorW.PrintWords
