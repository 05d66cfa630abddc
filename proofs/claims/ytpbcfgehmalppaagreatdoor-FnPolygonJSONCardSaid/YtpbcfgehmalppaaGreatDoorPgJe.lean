/- The row of the law FnPolygonJSON: for every input it returns true, and what it was handed reads as it did; and the card that ties the listed tables to the program's text. -/
import Derived.Test.YtpbcfgehmalppaaGreatDoorPgJd
import Derived.Test.YtpbcfgehmalppaaGreatDoorJsM
import Derived.Test.YtpbcfgehmalppaaGreatDoorFtK
import Derived.Test.YtpbcfgehmalppaaGreatDoorTie
import Derived.Test.YtpbcfgehmalppaaGreatDoorCards
import Derived.WalkKit
import Derived.ProofKit
import Derived.OpenShut
import Derived.ChangeOld
import Derived.Below
import Derived.SizedLaws
import Derived.Carry
import Derived.Lay
import Derived.LaidOnce
import Derived.SevenTiedAt
import Derived.Lib.SmallJoins
import Derived.Laws.Cover2
namespace Go.Proofs.YtpbcfgehmalppaaGreatDoor.PolygonJSONC
open Go.Joins Go.ChangeShapes Go.WideShapes Go.ChangeAt Go.RowKit Go.Deep Go.Lib

theorem size_of_reads {W : World} (h : VarReads Tryz.prog W "math/bits.deBruijn64tab" Rows.laid_math_bits_deBruijn64tab) : 7 ≤ W.heap.size := by
  obtain ⟨g, t, cs, fuel, p, hg, ht, hvar, hd⟩ := h
  obtain rfl := Option.some.inj ((show Tryz.prog.globalNamed "math/bits.deBruijn64tab" = some 6 by kernel_rfl).symm.trans hg)
  simp only [World.var?, hg, Option.bind_some] at hvar
  split at hvar
  · rename_i hb
    have := (Array.getElem?_eq_some_iff.1 hb).1
    exact this
  · cases hvar

theorem own : ownKnob Tryz.prog.godebug = none := by kernel_rfl
theorem laidOut : laidOutB Tryz.prog = true := by kernel_rfl
abbrev laid : List (String × DataW Unit) := Rows.fnPolygonJSONRow.laid

set_option maxRecDepth 100000 in
theorem lifted (os : Os) (started : os.Started) (H : Type) (enc : TypeId × Value → H) :
    ReturnsInHanded {} Tryz.checked os 4 .any (fun w args => (Rows.fnPolygonJSONSpec.pre enc Tryz.prog Tryz.f4 [] false w args ∧ laidMetH Tryz.prog laid w) ∧ sizedMet enc Tryz.prog Tryz.f4 (OpenSpec.ofChange Rows.fnPolygonJSONSpec) false w args)
      (Rows.fnPolygonJSONSpec.post enc Tryz.prog Tryz.f4 false true false false) := by
  refine returnsInHanded_of_change_and (C := Tryz.checked) (X := fun w _ => laidMetH Tryz.prog laid w) (fun _ _ _ hh h => h.of_heap hh) own started (by kernel_rfl) Tryz.func4
    (ChangeSpec.witness_shaped (enc := enc) (C := Tryz.checked) (os := os) (X := fun w _ => laidMetH Tryz.prog laid w) false (World.laidAll Tryz.prog os laid) #[.agg #[.int .i64 0, .int .i64 0, .slice none 0 0, .slice none 0 0]] 8 (World.laidAll_os _ _ _)
      (World.shaped_of_ZipB (by kernel_rfl) (by kernel_rfl)) (by kernel_rfl) (by kernel_rfl) (by kernel_rfl)
      (by rw [MakeChecks.laidMetH_plain _ _ _ (by kernel_rfl)]; exact laidMet_laidAll _ (by kernel_rfl) (by kernel_rfl))) ?_
  intro W base args ds gs before hval0 hW _ _ hL _
  have hval : ∀ (j : Nat) t v, Tryz.f4.params[j]? = some t → args[j]? = some v → Value.okWide Tryz.prog W .any base t v := hval0
  have hW' := hW
  obtain ⟨p, q, hA0, hV, rfl, _, _⟩ := hW
  have hA : DataW.TrodAll enc Tryz.prog W 0 (fun _ => true) true Tryz.f4.params.toList args.toList ds p := hA0
  rw [Tryz.params4] at hA hval
  obtain ⟨v0, d0, rfl, rfl, h0⟩ := trodAll_one hA
  obtain ⟨rfl, rfl⟩ := trodVars_none hV
  have k0 := h0
  have lt0 : ∀ x ∈ p, x.block < W.heap.size := by obtain ⟨n, hn⟩ := k0; exact DataW.trod_lt n _ _ _ hn
  obtain ⟨cs, rfl, hsz4⟩ := okWide_struct Tryz.underlying25 (hval 0 25 v0 rfl rfl)
  obtain ⟨fuel, hf⟩ := h0
  obtain ⟨k, d, A, K, n, m, c, c', t, hcs, hnc, hG⟩ := gm_of_trod fuel _ _ hf
  obtain rfl : cs = #[.int .i64 k, .int .i64 d, .slice A n c, .slice K m c'] := by
    have := congrArg List.toArray hcs
    simpa [Value.cells] using this
  rw [MakeChecks.laidMetH_plain _ _ _ (by kernel_rfl)] at hL
  have hpow : Pow10 W hiT loT := pow_of_reads (Lib.laidMet.reads hL (d := Rows.laid_internal_strconv_pow10Tab) (.tail _ (.tail _ (.tail _ (.tail _ (.tail _ (.head _)))))))
  have hten : Tab10 W := ten_of_reads (Lib.laidMet.reads hL (.tail _ (.tail _ (.tail _ (.head _)))))
  have hsz : 7 ≤ W.heap.size := size_of_reads (Lib.laidMet.reads hL (.tail _ (.head _)))
  have hft : FtTabs W hiT loT := ⟨hpow, tab_range, hten, hsz⟩
  refine (FnPolygonJSON_law hiT loT W hft hG (Nat.le_refl _)).mono fun e W' ⟨he, bel⟩ => ?_
  subst he
  exact ⟨_, rfl, _, _, _, [], _, [], hW', trodAll_mk1 (shut_bool Tryz.underlying4 _), trodAll_mk1 (Below.trod laidOut (by kernel_rfl) (of_decide_eq_true (by kernel_rfl)) k0 bel lt0), rfl, bel.frame _, fun h => by cases h⟩

theorem over : Rows.FnPolygonJSONSaid :=
  OpenClaim.holds_of_wide 4 Tryz.f4 rfl rfl rfl rfl rfl rfl rfl ⟨rfl, rfl, rfl, rfl, rfl⟩ rfl rfl rfl rfl rfl (by kernel_rfl) Tryz.func4 (by kernel_rfl)
    (of_decide_eq_true (by kernel_rfl)) (by unfold Func.isWrapper; first | (rw [if_pos (by decide +kernel)]; kernel_rfl) | (rw [if_neg (by decide +kernel)]; exact ⟨rfl, rfl⟩))
    (fun os started H enc _ => lifted os started H enc)

theorem card : Rows.FnPolygonJSONCardSaid :=
  Claim7.holds_tied_plain_at .later [] [.data, .data, .data, .data, .pinned, .pinned] true (true, "7d10880d0100bb61184fffae3825abb45b511aa7be47748017cd4e8d360c3ad9") true over (fun _ h => by cases h) (by kernel_rfl) (fun _ h => by cases h) fnPolygonJSON_row_tie rfl ⟨rfl, rfl⟩ (by kernel_rfl) rfl
    (fun f fn hf hfn => by
      obtain rfl : f = 4 := Option.some.inj ((show Tryz.prog.funcNamed "pub-alidade/laws.FnPolygonJSON" = some 4 by kernel_rfl).symm.trans hf) |>.symm
      obtain rfl : fn = Tryz.f4 := (Option.some.inj (Tryz.func4.symm.trans hfn)).symm
      exact ⟨by kernel_rfl, fun j t ht => by
        rw [Tryz.params4] at ht
        have hm : t ∈ [25] := by simpa using Array.mem_of_getElem? ht
        have hall : ([25].all fun u => !Tryz.prog.wantsStandIn u) = true := by kernel_rfl
        exact (show Tryz.prog.wantsStandIn t = false by simpa using List.all_eq_true.1 hall t hm)⟩)
    (by kernel_rfl)
#print axioms card
end Go.Proofs.YtpbcfgehmalppaaGreatDoor.PolygonJSONC
namespace Go.Proofs.YtpbcfgehmalppaaGreatDoor
theorem fnPolygonJSON_card : Rows.FnPolygonJSONCardSaid := PolygonJSONC.card
end Go.Proofs.YtpbcfgehmalppaaGreatDoor
