/- The row of the law FnPointJSONDecimal: for every input it returns true, and what it was handed reads as it did; and the card that ties the listed tables to the program's text. -/
import Derived.Test.YtpbcfgehmalppaaDoorDcG
import Derived.Test.YtpbcfgehmalppaaDoorFtK
import Derived.Test.YtpbcfgehmalppaaDoorTie
import Derived.Test.YtpbcfgehmalppaaDoorCards
import Derived.WalkKit
import Derived.ProofKit
import Derived.OpenShut
import Derived.ChangeOld
import Derived.Below
import Derived.SizedLaws
import Derived.Carry
import Derived.Lay
import Derived.LaidOnce
import Derived.SevenTiedAt
import Derived.Lib.SmallJoins
import Derived.Laws.Cover2
namespace Go.Proofs.YtpbcfgehmalppaaDoor.PtDec
open Go.Joins Go.ChangeShapes Go.WideShapes Go.ChangeAt Go.RowKit Go.Deep Go.Lib

theorem size_of_reads {W : World} (h : VarReads Tryd.prog W "math/bits.deBruijn64tab" Rows.laid_math_bits_deBruijn64tab) : 7 ≤ W.heap.size := by
  obtain ⟨g, t, cs, fuel, p, hg, ht, hvar, hd⟩ := h
  obtain rfl := Option.some.inj ((show Tryd.prog.globalNamed "math/bits.deBruijn64tab" = some 6 by kernel_rfl).symm.trans hg)
  simp only [World.var?, hg, Option.bind_some] at hvar
  split at hvar
  · rename_i hb
    have := (Array.getElem?_eq_some_iff.1 hb).1
    exact this
  · cases hvar

theorem own : ownKnob Tryd.prog.godebug = none := by kernel_rfl
theorem laidOut : laidOutB Tryd.prog = true := by kernel_rfl
abbrev laid : List (String × DataW Unit) := Rows.fnPointJSONDecimalRow.laid

set_option maxRecDepth 100000 in
theorem lifted (os : Os) (started : os.Started) (H : Type) (enc : TypeId × Value → H) :
    ReturnsInHanded {} Tryd.checked os 4 .any (fun w args => (Rows.fnPointJSONDecimalSpec.pre enc Tryd.prog Tryd.f4 [] false w args ∧ laidMetH Tryd.prog laid w) ∧ sizedMet enc Tryd.prog Tryd.f4 (OpenSpec.ofChange Rows.fnPointJSONDecimalSpec) false w args)
      (Rows.fnPointJSONDecimalSpec.post enc Tryd.prog Tryd.f4 false true false false) := by
  refine returnsInHanded_of_change_and (C := Tryd.checked) (X := fun w _ => laidMetH Tryd.prog laid w) (fun _ _ _ hh h => h.of_heap hh) own started (by kernel_rfl) Tryd.func4
    (ChangeSpec.witness_shaped (enc := enc) (C := Tryd.checked) (os := os) (X := fun w _ => laidMetH Tryd.prog laid w) false (World.laidAll Tryd.prog os laid) #[.int .i64 0, .int .i64 0, .int .i64 0] 8 (World.laidAll_os _ _ _)
      (World.shaped_of_ZipB (by kernel_rfl) (by kernel_rfl)) (by kernel_rfl) (by kernel_rfl) (by kernel_rfl)
      (by rw [MakeChecks.laidMetH_plain _ _ _ (by kernel_rfl)]; exact laidMet_laidAll _ (by kernel_rfl) (by kernel_rfl))) ?_
  intro W base args ds gs before hval0 hW _ _ hL _
  have hval : ∀ (j : Nat) t v, Tryd.f4.params[j]? = some t → args[j]? = some v → Value.okWide Tryd.prog W .any base t v := hval0
  have hW' := hW
  obtain ⟨p, q, hA0, hV, rfl, _, _⟩ := hW
  have hA : DataW.TrodAll enc Tryd.prog W 0 (fun _ => true) true Tryd.f4.params.toList args.toList ds p := hA0
  rw [Tryd.params4] at hA hval
  obtain ⟨v0, v1, v2, d0, d1, d2, p0, p1, p2, rfl, rfl, rfl, h0, h1, h2⟩ := trodAll_three hA
  obtain ⟨rfl, rfl⟩ := trodVars_none hV
  obtain ⟨x, rfl, rfl, rfl, wx⟩ := open_int Tryd.underlying3 (hval 0 3 v0 rfl rfl) h0
  obtain ⟨y, rfl, rfl, rfl, wy⟩ := open_int Tryd.underlying3 (hval 1 3 v1 rfl rfl) h1
  obtain ⟨z, rfl, rfl, rfl, wz⟩ := open_int Tryd.underlying3 (hval 2 3 v2 rfl rfl) h2
  rw [MakeChecks.laidMetH_plain _ _ _ (by kernel_rfl)] at hL
  have hpow : Pow10 W hiT loT := pow_of_reads (Lib.laidMet.reads hL (d := Rows.laid_internal_strconv_pow10Tab) (.tail _ (.tail _ (.tail _ (.tail _ (.tail _ (.head _)))))))
  have hten : Tab10 W := ten_of_reads (Lib.laidMet.reads hL (.tail _ (.tail _ (.tail _ (.head _)))))
  have hsz : 7 ≤ W.heap.size := size_of_reads (Lib.laidMet.reads hL (.tail _ (.head _)))
  have hft : FtTabs W hiT loT := ⟨hpow, tab_range, hten, hsz⟩
  have i64 : ∀ n : Int, (Lit.int .i64 n).wf = true → -9223372036854775808 ≤ n ∧ n ≤ 9223372036854775807 := fun n hn => by
    have h : (decide (-9223372036854775808 ≤ n) && decide (n ≤ 9223372036854775807)) = true := hn
    simpa using h
  obtain ⟨x0, x1⟩ := i64 x wx
  obtain ⟨y0, y1⟩ := i64 y wy
  refine (dlaw_any x y z x0 x1 y0 y1 W hft).mono fun e W' ⟨he, bel⟩ => ?_
  subst he
  exact ⟨_, rfl, _, _, _, [], _, [], hW', trodAll_mk1 (shut_bool Tryd.underlying4 _), trodAll_mk3 (shut_int Tryd.underlying3 wx) (shut_int Tryd.underlying3 wy) (shut_int Tryd.underlying3 wz), rfl, bel.frame _, fun h => by cases h⟩

theorem over : Rows.FnPointJSONDecimalSaid :=
  OpenClaim.holds_of_wide 4 Tryd.f4 rfl rfl rfl rfl rfl rfl rfl ⟨rfl, rfl, rfl, rfl, rfl⟩ rfl rfl rfl rfl rfl (by kernel_rfl) Tryd.func4 (by kernel_rfl)
    (of_decide_eq_true (by kernel_rfl)) (by unfold Func.isWrapper; first | (rw [if_pos (by decide +kernel)]; kernel_rfl) | (rw [if_neg (by decide +kernel)]; exact ⟨rfl, rfl⟩))
    (fun os started H enc _ => lifted os started H enc)

theorem card : Rows.FnPointJSONDecimalCardSaid :=
  Claim7.holds_tied_plain_at .later [] [.data, .data, .data, .data, .pinned, .pinned] true (true, "d174c172a8a3d6810f74c80247dae080d42373087452ab22a14e7ccae3b37492") false over (fun _ h => by cases h) (by kernel_rfl) (fun _ h => by cases h) fnPointJSONDecimal_row_tie rfl ⟨rfl, rfl⟩ (by kernel_rfl) rfl
    (fun f fn hf hfn => by
      obtain rfl : f = 4 := Option.some.inj ((show Tryd.prog.funcNamed "pub-alidade/laws.FnPointJSONDecimal" = some 4 by kernel_rfl).symm.trans hf) |>.symm
      obtain rfl : fn = Tryd.f4 := (Option.some.inj (Tryd.func4.symm.trans hfn)).symm
      exact ⟨by kernel_rfl, fun j t ht => by
        rw [Tryd.params4] at ht
        have hm : t ∈ [3, 3, 3] := by simpa using Array.mem_of_getElem? ht
        have hall : ([3, 3, 3].all fun u => !Tryd.prog.wantsStandIn u) = true := by kernel_rfl
        exact (show Tryd.prog.wantsStandIn t = false by simpa using List.all_eq_true.1 hall t hm)⟩)
    (by kernel_rfl)
#print axioms card
end Go.Proofs.YtpbcfgehmalppaaDoor.PtDec
namespace Go.Proofs.YtpbcfgehmalppaaDoor
theorem fnPointJSONDecimal_card : Rows.FnPointJSONDecimalCardSaid := PtDec.card
end Go.Proofs.YtpbcfgehmalppaaDoor
