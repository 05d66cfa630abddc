import Derived.Test.YtofdccmmagcamaaGreatDoorBxAl
import Derived.Test.YtofdccmmagcamaaGreatDoorMhB
import Derived.Test.YtofdccmmagcamaaGreatDoorTie
import Derived.Test.YtofdccmmagcamaaGreatDoorCards
import Derived.WalkKit
import Derived.ProofKit
import Derived.OpenShut
import Derived.ChangeOld
import Derived.Below
import Derived.SizedLaws
import Derived.Carry
import Derived.Lay
import Derived.LaidOnce
import Derived.SevenTiedAt
import Derived.Lib.SmallJoins
import Derived.Laws.Cover2
/- The row of the law FnBytesMore: for every input it returns true, and what it was handed reads as it did; and the card that ties the listed variable to the program's text. -/
set_option maxHeartbeats 8000000
set_option linter.unusedSimpArgs false
set_option linter.unusedVariables false
namespace Go.Proofs.YtofdccmmagcamaaGreatDoor.BytesMoreC
open Go.Joins Go.ChangeShapes Go.WideShapes Go.ChangeAt Go.RowKit Go.Deep Go.Lib

theorem bytes_of_trod {H : Type} {enc : TypeId × Value → H} {w : World} {spare : Nat → Bool} {held : Bool} {fuel : Nat} {v : Value} {y : DataW H × List MemPlace} (h : DataW.trod enc Tryz.prog w 0 spare held fuel 28 [v] = some y) :
    ∃ (A : Option Addr) (n c : Nat) (bs : List Int), v = .slice A n c ∧ Reads w w.heap.size 1 A n (bytesV bs) := by
  rcases DataW.trod_slice Tryz.underlying28 h with ⟨e, _⟩ | ⟨a, len, cap, elems, rest, n1, _, e, _, _, hl, _, hlen, hel, _⟩
  · injection e with e
    exact ⟨none, 0, 0, [], e, Reads.none_⟩
  · injection e with e
    have hc1 : Tryz.prog.cellsOf 5 = 1 := by kernel_rfl
    obtain ⟨bs, h1, h2⟩ := list_of (P := fun i b => w.cell? (a.add i) = some (.int .u8 b)) len fun i hi => by
      have he := hel i hi
      rw [hc1, Nat.mul_one, List.getElem?_eq_getElem (by omega)] at he
      obtain ⟨cs, k1, k2⟩ := Option.bind_eq_some_iff.1 he
      obtain ⟨_, hcl, hcc⟩ := World.cells?_some k1
      match cs, hcl with
      | [u], _ =>
        obtain ⟨b, hb, _, _⟩ := DataW.trod_int Tryz.underlying5 k2
        obtain rfl : u = .int .u8 b := by simpa using hb
        have := hcc 0 (by omega)
        exact ⟨b, by simpa [Addr.add] using this⟩
    refine ⟨some a, len, cap, bs, e, by rw [bytesV_length]; omega, fun h0 => ?_⟩
    refine ⟨a, rfl, ?_, fun j u hu => ?_⟩
    · have := World.block_lt_of_cell? w _ (h2 0 _ (List.getElem?_eq_getElem (by omega)))
      rwa [block_of_add] at this
    · unfold bytesV at hu
      rw [List.getElem?_map] at hu
      obtain ⟨b, hb, rfl⟩ := Option.map_eq_some_iff.1 hu
      exact h2 j b hb

theorem own : ownKnob Tryz.prog.godebug = none := by kernel_rfl
theorem laidOut : laidOutB Tryz.prog = true := by kernel_rfl
abbrev laid : List (String × DataW Unit) := Rows.fnBytesMoreRow.laid

set_option maxRecDepth 100000 in
theorem lifted (os : Os) (started : os.Started) (H : Type) (enc : TypeId × Value → H) :
    ReturnsInHanded {} Tryz.checked os 6 .any (fun w args => (Rows.fnBytesMoreSpec.pre enc Tryz.prog Tryz.f6 [] false w args ∧ laidMetH Tryz.prog laid w) ∧ sizedMet enc Tryz.prog Tryz.f6 (OpenSpec.ofChange Rows.fnBytesMoreSpec) false w args)
      (Rows.fnBytesMoreSpec.post enc Tryz.prog Tryz.f6 false true false false) := by
  refine returnsInHanded_of_change_and (C := Tryz.checked) (X := fun w _ => laidMetH Tryz.prog laid w) (fun _ _ _ hh h => h.of_heap hh) own started (by kernel_rfl) Tryz.func6
    (ChangeSpec.witness_shaped (enc := enc) (C := Tryz.checked) (os := os) (X := fun w _ => laidMetH Tryz.prog laid w) false (World.laidAll Tryz.prog os laid) #[.agg #[.int .i64 0, .int .i64 0, .slice none 0 0, .slice none 0 0], .slice none 0 0] 8 (World.laidAll_os _ _ _)
      (World.shaped_of_ZipB (by kernel_rfl) (by kernel_rfl)) (by kernel_rfl) (by kernel_rfl) (by kernel_rfl)
      (by rw [MakeChecks.laidMetH_plain _ _ _ (by kernel_rfl)]; exact laidMet_laidAll _ (by kernel_rfl) (by kernel_rfl))) ?_
  intro W base args ds gs before hval0 hW _ _ hL _
  have hval : ∀ (j : Nat) t v, Tryz.f6.params[j]? = some t → args[j]? = some v → Value.okWide Tryz.prog W .any base t v := hval0
  have hW' := hW
  obtain ⟨p, q, hA0, hV, rfl, _, _⟩ := hW
  have hA : DataW.TrodAll enc Tryz.prog W 0 (fun _ => true) true Tryz.f6.params.toList args.toList ds p := hA0
  rw [Tryz.params6] at hA hval
  obtain ⟨v0, v1, d0, d1, p0, p1, rfl, rfl, rfl, h0, h1⟩ := trodAll_two hA
  obtain ⟨rfl, rfl⟩ := trodVars_none hV
  have k0 := h0
  have k1 := h1
  have lt0 : ∀ x ∈ p0, x.block < W.heap.size := by obtain ⟨n, hn⟩ := k0; exact DataW.trod_lt n _ _ _ hn
  have lt1 : ∀ x ∈ p1, x.block < W.heap.size := by obtain ⟨n, hn⟩ := k1; exact DataW.trod_lt n _ _ _ hn
  obtain ⟨cs, rfl, hsz4⟩ := okWide_struct Tryz.underlying25 (hval 0 25 v0 rfl rfl)
  obtain ⟨fuel0, hf0⟩ := h1
  have hsl : v1.cells.toList = [v1] := by
    obtain ⟨ad, ln, cp, rfl⟩ := okWide_slice Tryz.underlying28 (hval 1 28 v1 rfl rfl)
    rfl
  rw [hsl] at hf0
  obtain ⟨Ab, nb, cb, bs, rfl, hBY⟩ := bytes_of_trod hf0
  obtain ⟨fuel, hf⟩ := h0
  obtain ⟨k, d, A, K, n, m, c, c', t, hcs, hnc, hG⟩ := gm_of_trod fuel _ _ hf
  obtain rfl : cs = #[.int .i64 k, .int .i64 d, .slice A n c, .slice K m c'] := by
    have := congrArg List.toArray hcs
    simpa [Value.cells] using this
  refine (FnBytesMore_law W hG hBY (Nat.le_refl _)).mono fun e W' ⟨he, bel⟩ => ?_
  subst he
  exact ⟨_, rfl, _, _, _, [], _, [], hW', trodAll_mk1 (shut_bool Tryz.underlying4 _), trodAll_mk2 (Below.trod laidOut (by kernel_rfl) (of_decide_eq_true (by kernel_rfl)) k0 bel lt0) (Below.trod laidOut (by kernel_rfl) (of_decide_eq_true (by kernel_rfl)) k1 bel lt1), rfl, bel.frame _, fun h => by cases h⟩

/-- Nothing in the program starts a goroutine. -/
theorem goes0 : Tryz.pinned.checked.prog.funcs.any Func.goes = false := by kernel_rfl
theorem no_goes {P : Program} (h : P.funcs.any Func.goes = false) (s : String) : false = P.goesAt .entering s := by
  have hg : ∀ f, P.goes f = false := fun f => by
    unfold Program.goes
    rw [h, Bool.and_false, Bool.or_false, List.any_eq_false]
    intro g _ hc
    cases hf : P.funcs[g]? with
    | none => rw [hf] at hc; cases hc
    | some fn =>
      rw [hf] at hc
      obtain ⟨hi, rfl⟩ := Array.getElem?_eq_some_iff.1 hf
      exact absurd hc (Array.any_eq_false.1 h g hi)
  unfold Program.goesAt Program.goesFrom
  cases P.funcNamed s <;> simp [hg]
theorem fact_inPlace : Rows.fnBytesMoreRow.inPlace = Tryz.pinned.checked.prog.inPlace 6 := by kernel_rfl
theorem fact_unfollowed : Rows.fnBytesMoreRow.unfollowed = Tryz.pinned.checked.prog.unfollowed 6 := by kernel_rfl
theorem fact_recurses : Rows.fnBytesMoreRow.recurses = Tryz.pinned.checked.prog.recurses 6 := by
  unfold Program.recurses
  rw [← fact_unfollowed]
  exact (Bool.true_or _).symm
theorem fact_named : Rows.fnBytesMoreRow.named = Tryz.pinned.checked.prog.varsNamed 6 := by kernel_rfl
theorem closed : joinedFacts Tryz.pinned.checked.prog 6 Tryz.f6 Rows.fnBytesMoreSpec Rows.fnBytesMoreRow = true := by
  unfold joinedFacts
  rw [beq_iff_eq.2 fact_inPlace, beq_iff_eq.2 fact_unfollowed, beq_iff_eq.2 fact_recurses, beq_iff_eq.2 fact_named]
  kernel_rfl

theorem over : Rows.FnBytesMoreSaid :=
  OpenClaim.holds_of_wide 6 Tryz.f6 rfl rfl rfl rfl rfl rfl rfl ⟨rfl, rfl, rfl, rfl, rfl⟩ rfl rfl rfl rfl rfl (by kernel_rfl) Tryz.func6 closed
    (of_decide_eq_true (by kernel_rfl)) (by unfold Func.isWrapper; first | (rw [if_pos (by decide +kernel)]; kernel_rfl) | (rw [if_neg (by decide +kernel)]; exact ⟨rfl, rfl⟩))
    (fun os started H enc _ => lifted os started H enc)

theorem card : Rows.FnBytesMoreCardSaid :=
  Claim7.holds_tied_plain_at .later [] [.sentinel] true (true, "8c402c591acb71499b21c3cb2d1dcfd265e15486cea790e13bc2d29562645016") true over (fun _ h => by cases h) (by kernel_rfl) (fun _ h => by cases h) fnBytesMore_row_tie rfl ⟨rfl, rfl⟩ (by kernel_rfl) rfl
    (fun f fn hf hfn => by
      obtain rfl : f = 6 := Option.some.inj ((show Tryz.prog.funcNamed "pub-alidade/laws.FnBytesMore" = some 6 by kernel_rfl).symm.trans hf) |>.symm
      obtain rfl : fn = Tryz.f6 := (Option.some.inj (Tryz.func6.symm.trans hfn)).symm
      exact ⟨by kernel_rfl, fun j t ht => by
        rw [Tryz.params6] at ht
        have hm : t ∈ [25, 28] := by simpa using Array.mem_of_getElem? ht
        have hall : ([25, 28].all fun u => !Tryz.prog.wantsStandIn u) = true := by kernel_rfl
        exact (show Tryz.prog.wantsStandIn t = false by simpa using List.all_eq_true.1 hall t hm)⟩)
    (no_goes goes0 _)
#print axioms card
end Go.Proofs.YtofdccmmagcamaaGreatDoor.BytesMoreC
namespace Go.Proofs.YtofdccmmagcamaaGreatDoor
theorem fnBytesMore_card : Rows.FnBytesMoreCardSaid := BytesMoreC.card
end Go.Proofs.YtofdccmmagcamaaGreatDoor
