/- The row of the law FnEnvString: for every input it returns true, and what it was handed reads as it did; and the card that ties the listed tables to the program's text. -/
import Derived.Test.YtpbcfgehmalppaaDoorEsH
import Derived.Test.YtpbcfgehmalppaaDoorFtK
import Derived.Test.YtpbcfgehmalppaaDoorTie
import Derived.Test.YtpbcfgehmalppaaDoorCards
import Derived.WalkKit
import Derived.ProofKit
import Derived.OpenShut
import Derived.ChangeOld
import Derived.Below
import Derived.SizedLaws
import Derived.Carry
import Derived.Lay
import Derived.LaidOnce
import Derived.SevenTiedAt
import Derived.Lib.SmallJoins
import Derived.Laws.Cover2
namespace Go.Proofs.YtpbcfgehmalppaaDoor.EnvS
open Go.Joins Go.ChangeShapes Go.WideShapes Go.ChangeAt Go.RowKit Go.Deep Go.Lib

theorem trod_bool {H : Type} {enc : TypeId × Value → H} {P : Program} {w : World} {base : Nat} {sp : Nat → Bool} {held : Bool} {fuel : Nat} {t : TypeId} {c : Value} {y : DataW H × List MemPlace}
    (ht : P.underlying t = some .bool) (h : DataW.trod enc P w base sp held fuel t [c] = some y) : ∃ b, c = .bool b := by
  cases fuel with
  | zero => simp [DataW.trod] at h
  | succ n =>
    simp only [DataW.trod, ht] at h
    cases c <;> simp at h
    exact ⟨_, rfl⟩
theorem trod_f64 {H : Type} {enc : TypeId × Value → H} {P : Program} {w : World} {base : Nat} {sp : Nat → Bool} {held : Bool} {fuel : Nat} {t : TypeId} {c : Value} {y : DataW H × List MemPlace}
    (ht : P.underlying t = some (.float .f64)) (h : DataW.trod enc P w base sp held fuel t [c] = some y) : ∃ b, c = .float .f64 b ∧ b < 18446744073709551616 := by
  cases fuel with
  | zero => simp [DataW.trod] at h
  | succ n =>
    simp only [DataW.trod, ht] at h
    cases c <;> simp at h
    rename_i k' b
    by_cases hk : k' = .f64
    · subst hk
      by_cases hw : (Lit.float .f64 b).wf = true
      · exact ⟨b, rfl, by simpa [Lit.wf] using hw⟩
      · simp [hw] at h
    · simp [hk] at h

set_option maxRecDepth 100000 in
/-- A datum of type impl.Env is a flag and four numbers. -/
theorem env_of_trod {H : Type} {enc : TypeId × Value → H} {w : World} {sp : Nat → Bool} {held : Bool} {fuel : Nat} {cs : List Value} {y : DataW H × List MemPlace} (h : DataW.trod enc Tryd.prog w 0 sp held fuel 46 cs = some y) :
    ∃ f x y z m, cs = [.bool f, .float .f64 x, .float .f64 y, .float .f64 z, .float .f64 m] ∧ x < 18446744073709551616 ∧ y < 18446744073709551616 ∧ z < 18446744073709551616 ∧ m < 18446744073709551616 := by
  have hC : Tryd.prog.cellsOf 46 = 5 := by kernel_rfl
  have hB : Tryd.prog.cellsOf 44 = 4 := by kernel_rfl
  have hF : Tryd.prog.cellsOf 22 = 1 := by kernel_rfl
  have h1 : Tryd.prog.cellsOf 4 = 1 := by kernel_rfl
  obtain ⟨xs, n, rfl, _, hlen, hxl, hg⟩ := DataW.trod_struct Tryd.underlying46 h
  rw [hC] at hlen
  match cs, hlen, xs, hxl with
  | [c0, c1, c2, c3, c4], _, [y0, y1], _ =>
    have j0 : DataW.trod enc Tryd.prog w 0 sp held n 4 (List.take (Tryd.prog.cellsOf 4) [c0, c1, c2, c3, c4]) = some y0 := hg 0 _ rfl
    have j1 : DataW.trod enc Tryd.prog w 0 sp held n 44 (List.take (Tryd.prog.cellsOf 44) [c1, c2, c3, c4]) = some y1 := hg 1 _ rfl
    rw [h1] at j0
    rw [hB] at j1
    simp only [List.take_succ_cons, List.take_zero] at j0 j1
    obtain ⟨f, rfl⟩ := trod_bool Tryd.underlying4 j0
    obtain ⟨zs, n2, rfl, _, _, hzl, hg2⟩ := DataW.trod_struct Tryd.underlying44 j1
    match zs, hzl with
    | [z0, z1, z2, z3], _ =>
      have i0 : DataW.trod enc Tryd.prog w 0 sp held n2 22 (List.take (Tryd.prog.cellsOf 22) [c1, c2, c3, c4]) = some z0 := hg2 0 _ rfl
      have i1 : DataW.trod enc Tryd.prog w 0 sp held n2 22 (List.take (Tryd.prog.cellsOf 22) [c2, c3, c4]) = some z1 := hg2 1 _ rfl
      have i2 : DataW.trod enc Tryd.prog w 0 sp held n2 22 (List.take (Tryd.prog.cellsOf 22) [c3, c4]) = some z2 := hg2 2 _ rfl
      have i3 : DataW.trod enc Tryd.prog w 0 sp held n2 22 (List.take (Tryd.prog.cellsOf 22) [c4]) = some z3 := hg2 3 _ rfl
      rw [hF] at i0 i1 i2 i3
      simp only [List.take_succ_cons, List.take_zero] at i0 i1 i2 i3
      obtain ⟨a, rfl, wa⟩ := trod_f64 Tryd.underlying22 i0
      obtain ⟨b, rfl, wb⟩ := trod_f64 Tryd.underlying22 i1
      obtain ⟨c, rfl, wc⟩ := trod_f64 Tryd.underlying22 i2
      obtain ⟨d, rfl, wd⟩ := trod_f64 Tryd.underlying22 i3
      exact ⟨f, a, b, c, d, rfl, wa, wb, wc, wd⟩

theorem elaw_any (f : Bool) (a b c d : Nat) (ha : a < 18446744073709551616) (hb : b < 18446744073709551616) (hc : c < 18446744073709551616) (hd : d < 18446744073709551616) (w : World) (ht : FtTabs w hiT loT) :
    Calls Tryd.prog 6 #[.agg #[.bool f, .float .f64 a, .float .f64 b, .float .f64 c, .float .f64 d]] w fun e w' => e = .returned (.bool true) ∧ Below w.heap.size w w' := by
  cases f
  · exact elaw_not a b c d ha hb hc hd w ht
  · exact elaw_full a b c d ha hb hc hd w ht

theorem size_of_reads {W : World} (h : VarReads Tryd.prog W "math/bits.deBruijn64tab" Rows.laid_math_bits_deBruijn64tab) : 7 ≤ W.heap.size := by
  obtain ⟨g, t, cs, fuel, p, hg, ht, hvar, hd⟩ := h
  obtain rfl := Option.some.inj ((show Tryd.prog.globalNamed "math/bits.deBruijn64tab" = some 6 by kernel_rfl).symm.trans hg)
  simp only [World.var?, hg, Option.bind_some] at hvar
  split at hvar
  · rename_i hb
    have := (Array.getElem?_eq_some_iff.1 hb).1
    exact this
  · cases hvar

theorem own : ownKnob Tryd.prog.godebug = none := by kernel_rfl
theorem laidOut : laidOutB Tryd.prog = true := by kernel_rfl
abbrev laid : List (String × DataW Unit) := Rows.fnEnvStringRow.laid

set_option maxRecDepth 100000 in
theorem lifted (os : Os) (started : os.Started) (H : Type) (enc : TypeId × Value → H) :
    ReturnsInHanded {} Tryd.checked os 6 .any (fun w args => (Rows.fnEnvStringSpec.pre enc Tryd.prog Tryd.f6 [] false w args ∧ laidMetH Tryd.prog laid w) ∧ sizedMet enc Tryd.prog Tryd.f6 (OpenSpec.ofChange Rows.fnEnvStringSpec) false w args)
      (Rows.fnEnvStringSpec.post enc Tryd.prog Tryd.f6 false true false false) := by
  refine returnsInHanded_of_change_and (C := Tryd.checked) (X := fun w _ => laidMetH Tryd.prog laid w) (fun _ _ _ hh h => h.of_heap hh) own started (by kernel_rfl) Tryd.func6
    (ChangeSpec.witness_shaped (enc := enc) (C := Tryd.checked) (os := os) (X := fun w _ => laidMetH Tryd.prog laid w) false (World.laidAll Tryd.prog os laid) #[.agg #[.bool false, .float .f64 0, .float .f64 0, .float .f64 0, .float .f64 0]] 8 (World.laidAll_os _ _ _)
      (World.shaped_of_ZipB (by kernel_rfl) (by kernel_rfl)) (by kernel_rfl) (by kernel_rfl) (by kernel_rfl)
      (by rw [MakeChecks.laidMetH_plain _ _ _ (by kernel_rfl)]; exact laidMet_laidAll _ (by kernel_rfl) (by kernel_rfl))) ?_
  intro W base args ds gs before hval0 hW _ _ hL _
  have hval : ∀ (j : Nat) t v, Tryd.f6.params[j]? = some t → args[j]? = some v → Value.okWide Tryd.prog W .any base t v := hval0
  have hW' := hW
  obtain ⟨p, q, hA0, hV, rfl, _, _⟩ := hW
  have hA : DataW.TrodAll enc Tryd.prog W 0 (fun _ => true) true Tryd.f6.params.toList args.toList ds p := hA0
  rw [Tryd.params6] at hA hval
  obtain ⟨v0, d0, rfl, rfl, h0⟩ := trodAll_one hA
  obtain ⟨rfl, rfl⟩ := trodVars_none hV
  have k0 := h0
  have lt0 : ∀ x ∈ p, x.block < W.heap.size := by obtain ⟨n, hn⟩ := k0; exact DataW.trod_lt n _ _ _ hn
  obtain ⟨cs, rfl, hsz4⟩ := okWide_struct Tryd.underlying46 (hval 0 46 v0 rfl rfl)
  obtain ⟨fuel, hf⟩ := h0
  obtain ⟨f, x, y, z, m, hcs, wx, wy, wz, wm⟩ := env_of_trod hf
  obtain rfl : cs = #[.bool f, .float .f64 x, .float .f64 y, .float .f64 z, .float .f64 m] := by
    have := congrArg List.toArray hcs
    simpa [Value.cells] using this
  rw [MakeChecks.laidMetH_plain _ _ _ (by kernel_rfl)] at hL
  have hpow : Pow10 W hiT loT := pow_of_reads (Lib.laidMet.reads hL (d := Rows.laid_internal_strconv_pow10Tab) (.tail _ (.tail _ (.tail _ (.tail _ (.tail _ (.head _)))))))
  have hten : Tab10 W := ten_of_reads (Lib.laidMet.reads hL (.tail _ (.tail _ (.tail _ (.head _)))))
  have hsz : 7 ≤ W.heap.size := size_of_reads (Lib.laidMet.reads hL (.tail _ (.head _)))
  have hft : FtTabs W hiT loT := ⟨hpow, tab_range, hten, hsz⟩
  refine (elaw_any f x y z m wx wy wz wm W hft).mono fun e W' ⟨he, bel⟩ => ?_
  subst he
  exact ⟨_, rfl, _, _, _, [], _, [], hW', trodAll_mk1 (shut_bool Tryd.underlying4 _), trodAll_mk1 (Below.trod laidOut (by kernel_rfl) (of_decide_eq_true (by kernel_rfl)) k0 bel lt0), rfl, bel.frame _, fun h => by cases h⟩

theorem over : Rows.FnEnvStringSaid :=
  OpenClaim.holds_of_wide 6 Tryd.f6 rfl rfl rfl rfl rfl rfl rfl ⟨rfl, rfl, rfl, rfl, rfl⟩ rfl rfl rfl rfl rfl (by kernel_rfl) Tryd.func6 (by kernel_rfl)
    (of_decide_eq_true (by kernel_rfl)) (by unfold Func.isWrapper; first | (rw [if_pos (by decide +kernel)]; kernel_rfl) | (rw [if_neg (by decide +kernel)]; exact ⟨rfl, rfl⟩))
    (fun os started H enc _ => lifted os started H enc)

theorem card : Rows.FnEnvStringCardSaid :=
  Claim7.holds_tied_plain_at .later [] [.data, .data, .data, .data, .pinned, .pinned] true (true, "d174c172a8a3d6810f74c80247dae080d42373087452ab22a14e7ccae3b37492") false over (fun _ h => by cases h) (by kernel_rfl) (fun _ h => by cases h) fnEnvString_row_tie rfl ⟨rfl, rfl⟩ (by kernel_rfl) rfl
    (fun f fn hf hfn => by
      obtain rfl : f = 6 := Option.some.inj ((show Tryd.prog.funcNamed "pub-alidade/laws.FnEnvString" = some 6 by kernel_rfl).symm.trans hf) |>.symm
      obtain rfl : fn = Tryd.f6 := (Option.some.inj (Tryd.func6.symm.trans hfn)).symm
      exact ⟨by kernel_rfl, fun j t ht => by
        rw [Tryd.params6] at ht
        have hm : t ∈ [46] := by simpa using Array.mem_of_getElem? ht
        have hall : ([46].all fun u => !Tryd.prog.wantsStandIn u) = true := by kernel_rfl
        exact (show Tryd.prog.wantsStandIn t = false by simpa using List.all_eq_true.1 hall t hm)⟩)
    (by kernel_rfl)
#print axioms card
end Go.Proofs.YtpbcfgehmalppaaDoor.EnvS
namespace Go.Proofs.YtpbcfgehmalppaaDoor
theorem fnEnvString_card : Rows.FnEnvStringCardSaid := EnvS.card
end Go.Proofs.YtpbcfgehmalppaaDoor
