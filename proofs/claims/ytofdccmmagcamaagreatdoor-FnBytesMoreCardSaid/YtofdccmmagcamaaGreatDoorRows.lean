/-
  NARROWER THAN 'FOR EVERY INPUT', by the rows' own cells (each row's printed sentence says how): FnPolygonJSON: loops, laid · FnTextAppend: loops, laid · FnTextMulti: loops, laid · FnBytesMore: loops, laid · FnBytesOrders: loops, laid.
  DERIVED. THE GIVEN ROWS OF THIS SEAT. 5 by the template 'for every input the law returns true; each argument reads behind the call as it read before'; 0 by the template 'total and deterministic' (their statements: YtofdccmmagcamaaGreatDoorTotals.lean).
  GIVEN WITH THE SEED: the statements are not yours to turn. If you find one false, say at which input.
  Laid BY PROGRAM, IN A SANDBOX (cutbox-rows.mjs): the forced cells as the released guide's own fill.sh prints them over the translation d9475e7d9add8ba6… (all of the seat's roots in one cut). By AI agents, Wed Nov 11 2026. No macro, syntax, notation, axiom, sorry.
-/
import Derived.Test.YtofdccmmagcamaaGreatDoorChecked
import GoSem.PinnedTables
import GoSem.Claim
import GoSem.ClaimJoined
import GoSem.ClaimMapViews
import Derived.JoinedTies
import Derived.KernelRfl
namespace Go.Proofs.YtofdccmmagcamaaGreatDoor
/- THE CELL 'sum', in the pinned program and in every row, IS THE sha256 OF THE DUMP (.gsa) THAT YtofdccmmagcamaaGreatDoorProg.lean LOADS. Nothing in Lean hashes anything: it is a label: what it is worth is what the hold of that sum in a sandbox is worth. -/
noncomputable def Tryz.pinned : Pinned := { name := "ytofdccmmagcamaagreatdoor", sum := "d9475e7d9add8ba6d0a1b5a7b3d8ad9d50585fd2dbbad8d5cd0edcb32c53471c", checked := Tryz.checked }
namespace Rows
def none {H : Type} : Left H := { results := [], args := [] }

/- WHAT THE LISTED PACKAGE-LEVEL VARIABLES READ AS WHEN THE CALL BEGINS. Each datum BY PROGRAM (the guide's laid-datum.mjs) off the statement by which the dump's own 'gosem.cut.vars' lays the variable. In a bare row this is a premise. The card (YtofdccmmagcamaaGreatDoorCards.lean) ties it to the program's text. -/
def laid_math_bits_deBruijn32tab {H : Type} : DataW H := .agg [.lit (.int .u8 0), .lit (.int .u8 1), .lit (.int .u8 28), .lit (.int .u8 2), .lit (.int .u8 29), .lit (.int .u8 14), .lit (.int .u8 24), .lit (.int .u8 3), .lit (.int .u8 30), .lit (.int .u8 22), .lit (.int .u8 20), .lit (.int .u8 15), .lit (.int .u8 25), .lit (.int .u8 17), .lit (.int .u8 4), .lit (.int .u8 8), .lit (.int .u8 31), .lit (.int .u8 27), .lit (.int .u8 13), .lit (.int .u8 23), .lit (.int .u8 21), .lit (.int .u8 19), .lit (.int .u8 16), .lit (.int .u8 7), .lit (.int .u8 26), .lit (.int .u8 12), .lit (.int .u8 18), .lit (.int .u8 6), .lit (.int .u8 11), .lit (.int .u8 5), .lit (.int .u8 10), .lit (.int .u8 9)]
def laid_math_bits_deBruijn64tab {H : Type} : DataW H := .agg [.lit (.int .u8 0), .lit (.int .u8 1), .lit (.int .u8 56), .lit (.int .u8 2), .lit (.int .u8 57), .lit (.int .u8 49), .lit (.int .u8 28), .lit (.int .u8 3), .lit (.int .u8 61), .lit (.int .u8 58), .lit (.int .u8 42), .lit (.int .u8 50), .lit (.int .u8 38), .lit (.int .u8 29), .lit (.int .u8 17), .lit (.int .u8 4), .lit (.int .u8 62), .lit (.int .u8 47), .lit (.int .u8 59), .lit (.int .u8 36), .lit (.int .u8 45), .lit (.int .u8 43), .lit (.int .u8 51), .lit (.int .u8 22), .lit (.int .u8 53), .lit (.int .u8 39), .lit (.int .u8 33), .lit (.int .u8 30), .lit (.int .u8 24), .lit (.int .u8 18), .lit (.int .u8 12), .lit (.int .u8 5), .lit (.int .u8 63), .lit (.int .u8 55), .lit (.int .u8 48), .lit (.int .u8 27), .lit (.int .u8 60), .lit (.int .u8 41), .lit (.int .u8 37), .lit (.int .u8 16), .lit (.int .u8 46), .lit (.int .u8 35), .lit (.int .u8 44), .lit (.int .u8 21), .lit (.int .u8 52), .lit (.int .u8 32), .lit (.int .u8 23), .lit (.int .u8 11), .lit (.int .u8 54), .lit (.int .u8 26), .lit (.int .u8 40), .lit (.int .u8 15), .lit (.int .u8 34), .lit (.int .u8 20), .lit (.int .u8 31), .lit (.int .u8 10), .lit (.int .u8 25), .lit (.int .u8 14), .lit (.int .u8 19), .lit (.int .u8 9), .lit (.int .u8 13), .lit (.int .u8 8), .lit (.int .u8 7), .lit (.int .u8 6)]
def laid_internal_strconv_optimize {H : Type} : DataW H := .lit (.bool true)
def laid_internal_strconv_uint64pow10 {H : Type} : DataW H := .agg [.lit (.int .u64 1), .lit (.int .u64 10), .lit (.int .u64 100), .lit (.int .u64 1000), .lit (.int .u64 10000), .lit (.int .u64 100000), .lit (.int .u64 1000000), .lit (.int .u64 10000000), .lit (.int .u64 100000000), .lit (.int .u64 1000000000), .lit (.int .u64 10000000000), .lit (.int .u64 100000000000), .lit (.int .u64 1000000000000), .lit (.int .u64 10000000000000), .lit (.int .u64 100000000000000), .lit (.int .u64 1000000000000000), .lit (.int .u64 10000000000000000), .lit (.int .u64 100000000000000000), .lit (.int .u64 1000000000000000000), .lit (.int .u64 10000000000000000000)]
/-- One of Go's own tables, pinned by name: the form's constant. -/
def laid_internal_strconv_leftcheats : DataW Unit := Go.Pinned.leftcheats
/-- One of Go's own tables, pinned by name: the form's constant. -/
def laid_internal_strconv_pow10Tab : DataW Unit := Go.Pinned.pow10Tab
def laid_pub_alidade_pub_simplefeatures_rtree_Stop {H : Type} : DataW H := .iface "*errors.errorString" (.ptr (.agg [.lit (.string [115, 116, 111, 112])]))

/-- 'laws.FnPolygonJSON': WHATEVER THE INPUT: true; the input reads as it did. -/
def fnPolygonJSONSpec : ChangeSpec := { name := "fnPolygonJSON", fn := fun _ => fun
  | [d] => { results := [.lit (.bool true)], args := [d] }
  | _ => none }
def fnPolygonJSONRow : OpenClaim := { program := "ytofdccmmagcamaagreatdoor", sum := "d9475e7d9add8ba6d0a1b5a7b3d8ad9d50585fd2dbbad8d5cd0edcb32c53471c", func := "pub-alidade/laws.FnPolygonJSON", spec := "fnPolygonJSON", inPlace := ["math.Float64bits", "math.Float64frombits", "internal/strconv.float32bits", "internal/strconv.float64bits"], unfollowed := true, recurses := true, named := ["internal/strconv.optimize", "internal/strconv.uint64pow10", "math/bits.deBruijn32tab", "math/bits.deBruijn64tab", "internal/strconv.pow10Tab", "internal/strconv.leftcheats"], loops := true, plainKeys := false, apart := false, laid := [("math/bits.deBruijn32tab", laid_math_bits_deBruijn32tab), ("math/bits.deBruijn64tab", laid_math_bits_deBruijn64tab), ("internal/strconv.optimize", laid_internal_strconv_optimize), ("internal/strconv.uint64pow10", laid_internal_strconv_uint64pow10), ("internal/strconv.leftcheats", laid_internal_strconv_leftcheats), ("internal/strconv.pow10Tab", laid_internal_strconv_pow10Tab)] }
def FnPolygonJSONSaid : Prop := fnPolygonJSONRow.holds Tryz.pinned (OpenSpec.ofChange fnPolygonJSONSpec)

/-- ITS FALSE NEIGHBOUR: 'it returns false'. Refute it at one input. -/
def fnPolygonJSONWrong : ChangeSpec := { name := "fnPolygonJSON", fn := fun _ => fun
  | [d] => { results := [.lit (.bool false)], args := [d] }
  | _ => none }
def FnPolygonJSONWrongFalsely : Prop := fnPolygonJSONRow.holds Tryz.pinned (OpenSpec.ofChange fnPolygonJSONWrong)

/-- 'laws.FnTextAppend': WHATEVER THE INPUT: true; the input reads as it did. -/
def fnTextAppendSpec : ChangeSpec := { name := "fnTextAppend", fn := fun _ => fun
  | [d1, d2] => { results := [.lit (.bool true)], args := [d1, d2] }
  | _ => none }
def fnTextAppendRow : OpenClaim := { program := "ytofdccmmagcamaagreatdoor", sum := "d9475e7d9add8ba6d0a1b5a7b3d8ad9d50585fd2dbbad8d5cd0edcb32c53471c", func := "pub-alidade/laws.FnTextAppend", spec := "fnTextAppend", inPlace := ["internal/strconv.float32bits", "internal/strconv.float64bits"], recurses := true, named := ["internal/strconv.optimize", "internal/strconv.uint64pow10", "math/bits.deBruijn32tab", "math/bits.deBruijn64tab", "internal/strconv.pow10Tab", "internal/strconv.leftcheats"], loops := true, plainKeys := false, apart := false, laid := [("math/bits.deBruijn32tab", laid_math_bits_deBruijn32tab), ("math/bits.deBruijn64tab", laid_math_bits_deBruijn64tab), ("internal/strconv.optimize", laid_internal_strconv_optimize), ("internal/strconv.uint64pow10", laid_internal_strconv_uint64pow10), ("internal/strconv.leftcheats", laid_internal_strconv_leftcheats), ("internal/strconv.pow10Tab", laid_internal_strconv_pow10Tab)] }
def FnTextAppendSaid : Prop := fnTextAppendRow.holds Tryz.pinned (OpenSpec.ofChange fnTextAppendSpec)

/-- ITS FALSE NEIGHBOUR: 'it returns false'. Refute it at one input. -/
def fnTextAppendWrong : ChangeSpec := { name := "fnTextAppend", fn := fun _ => fun
  | [d1, d2] => { results := [.lit (.bool false)], args := [d1, d2] }
  | _ => none }
def FnTextAppendWrongFalsely : Prop := fnTextAppendRow.holds Tryz.pinned (OpenSpec.ofChange fnTextAppendWrong)

/-- 'laws.FnTextMulti': WHATEVER THE INPUT: true; the input reads as it did. -/
def fnTextMultiSpec : ChangeSpec := { name := "fnTextMulti", fn := fun _ => fun
  | [d1, d2] => { results := [.lit (.bool true)], args := [d1, d2] }
  | _ => none }
def fnTextMultiRow : OpenClaim := { program := "ytofdccmmagcamaagreatdoor", sum := "d9475e7d9add8ba6d0a1b5a7b3d8ad9d50585fd2dbbad8d5cd0edcb32c53471c", func := "pub-alidade/laws.FnTextMulti", spec := "fnTextMulti", inPlace := ["internal/strconv.float32bits", "internal/strconv.float64bits"], recurses := true, named := ["internal/strconv.optimize", "internal/strconv.uint64pow10", "math/bits.deBruijn32tab", "math/bits.deBruijn64tab", "internal/strconv.pow10Tab", "internal/strconv.leftcheats"], loops := true, plainKeys := false, apart := false, laid := [("math/bits.deBruijn32tab", laid_math_bits_deBruijn32tab), ("math/bits.deBruijn64tab", laid_math_bits_deBruijn64tab), ("internal/strconv.optimize", laid_internal_strconv_optimize), ("internal/strconv.uint64pow10", laid_internal_strconv_uint64pow10), ("internal/strconv.leftcheats", laid_internal_strconv_leftcheats), ("internal/strconv.pow10Tab", laid_internal_strconv_pow10Tab)] }
def FnTextMultiSaid : Prop := fnTextMultiRow.holds Tryz.pinned (OpenSpec.ofChange fnTextMultiSpec)

/-- ITS FALSE NEIGHBOUR: 'it returns false'. Refute it at one input. -/
def fnTextMultiWrong : ChangeSpec := { name := "fnTextMulti", fn := fun _ => fun
  | [d1, d2] => { results := [.lit (.bool false)], args := [d1, d2] }
  | _ => none }
def FnTextMultiWrongFalsely : Prop := fnTextMultiRow.holds Tryz.pinned (OpenSpec.ofChange fnTextMultiWrong)

/-- 'laws.FnBytesMore': WHATEVER THE INPUT: true; the input reads as it did. -/
def fnBytesMoreSpec : ChangeSpec := { name := "fnBytesMore", fn := fun _ => fun
  | [d1, d2] => { results := [.lit (.bool true)], args := [d1, d2] }
  | _ => none }
def fnBytesMoreRow : OpenClaim := { program := "ytofdccmmagcamaagreatdoor", sum := "d9475e7d9add8ba6d0a1b5a7b3d8ad9d50585fd2dbbad8d5cd0edcb32c53471c", func := "pub-alidade/laws.FnBytesMore", spec := "fnBytesMore", inPlace := ["math.Float64bits", "math.Float64frombits", "internal/reflectlite.TypeOf", "internal/reflectlite.ValueOf", "internal/reflectlite.Swapper", "(internal/reflectlite.Value).Len"], unfollowed := true, recurses := true, named := ["encoding/binary.BigEndian", "encoding/binary.LittleEndian", "pub-alidade/pub/simplefeatures/rtree.Stop"], loops := true, plainKeys := false, apart := false, laid := [("pub-alidade/pub/simplefeatures/rtree.Stop", laid_pub_alidade_pub_simplefeatures_rtree_Stop)] }
def FnBytesMoreSaid : Prop := fnBytesMoreRow.holds Tryz.pinned (OpenSpec.ofChange fnBytesMoreSpec)

/-- ITS FALSE NEIGHBOUR: 'it returns false'. Refute it at one input. -/
def fnBytesMoreWrong : ChangeSpec := { name := "fnBytesMore", fn := fun _ => fun
  | [d1, d2] => { results := [.lit (.bool false)], args := [d1, d2] }
  | _ => none }
def FnBytesMoreWrongFalsely : Prop := fnBytesMoreRow.holds Tryz.pinned (OpenSpec.ofChange fnBytesMoreWrong)

/-- 'laws.FnBytesOrders': WHATEVER THE INPUT: true; the input reads as it did. -/
def fnBytesOrdersSpec : ChangeSpec := { name := "fnBytesOrders", fn := fun _ => fun
  | [d1, d2] => { results := [.lit (.bool true)], args := [d1, d2] }
  | _ => none }
def fnBytesOrdersRow : OpenClaim := { program := "ytofdccmmagcamaagreatdoor", sum := "d9475e7d9add8ba6d0a1b5a7b3d8ad9d50585fd2dbbad8d5cd0edcb32c53471c", func := "pub-alidade/laws.FnBytesOrders", spec := "fnBytesOrders", inPlace := ["math.Float64bits", "math.Float64frombits", "internal/reflectlite.TypeOf", "internal/reflectlite.ValueOf", "internal/reflectlite.Swapper", "(internal/reflectlite.Value).Len"], unfollowed := true, recurses := true, named := ["encoding/binary.BigEndian", "encoding/binary.LittleEndian", "pub-alidade/pub/simplefeatures/rtree.Stop"], loops := true, plainKeys := false, apart := false, laid := [("pub-alidade/pub/simplefeatures/rtree.Stop", laid_pub_alidade_pub_simplefeatures_rtree_Stop)] }
def FnBytesOrdersSaid : Prop := fnBytesOrdersRow.holds Tryz.pinned (OpenSpec.ofChange fnBytesOrdersSpec)

/-- ITS FALSE NEIGHBOUR: 'it returns false'. Refute it at one input. -/
def fnBytesOrdersWrong : ChangeSpec := { name := "fnBytesOrders", fn := fun _ => fun
  | [d1, d2] => { results := [.lit (.bool false)], args := [d1, d2] }
  | _ => none }
def FnBytesOrdersWrongFalsely : Prop := fnBytesOrdersRow.holds Tryz.pinned (OpenSpec.ofChange fnBytesOrdersWrong)

/- THE SECOND FORM. 'bulk': how many values and letters a reading holds, each counted each time it is reached (what is shared counts as often as it is met; a slice's spare places count too). A statement '..UptoSaid' is the law's where the arguments, and the package variables that the reading takes, are together of bulk at most 1048576: NARROWER than '..Said'. Prove '..Said' where nothing that the law and all that it calls make is longer than what came in: it says more and counts as full. Else prove '..UptoSaid'. A law counts once. -/
mutual
def uptoBulk {H : Type} : DataW H → Nat
  | .lit (.string bytes) => bytes.length + 1
  | .lit _ => 1
  | .nil => 1
  | .ptr d => uptoBulk d + 1
  | .slice elems spare => uptoBulkAll elems + uptoBulkAll spare + 1
  | .agg parts => uptoBulkAll parts + 1
  | .iface _ d => uptoBulk d + 1
  | .map entries => uptoBulkEntries entries + 1
  | .held _ => 1
def uptoBulkAll {H : Type} : List (DataW H) → Nat
  | [] => 0
  | d :: r => uptoBulk d + uptoBulkAll r
def uptoBulkEntries {H : Type} : List (Lit × DataW H) → Nat
  | [] => 0
  | x :: r => uptoBulkEntry x + uptoBulkEntries r
def uptoBulkEntry {H : Type} : Lit × DataW H → Nat
  | (.string bytes, d) => bytes.length + uptoBulk d + 1
  | (_, d) => uptoBulk d + 1
 end
def uptoSmall : (H : Type) → List (DataW H) → Bool := fun _ ds => decide (uptoBulkAll ds ≤ 1048576)
def OpenSpec.upto (s : _root_.Go.ChangeSpec) : _root_.Go.OpenSpec := { _root_.Go.OpenSpec.ofChange s with cond := some uptoSmall }

/-- 'laws.FnPolygonJSON', WHERE WHAT IT READS IS OF BULK AT MOST 1048576: true; the input reads as it did. -/
def fnPolygonJSONUptoRow : OpenClaim := { program := "ytofdccmmagcamaagreatdoor", sum := "d9475e7d9add8ba6d0a1b5a7b3d8ad9d50585fd2dbbad8d5cd0edcb32c53471c", func := "pub-alidade/laws.FnPolygonJSON", spec := "fnPolygonJSON", inPlace := ["math.Float64bits", "math.Float64frombits", "internal/strconv.float32bits", "internal/strconv.float64bits"], unfollowed := true, recurses := true, named := ["internal/strconv.optimize", "internal/strconv.uint64pow10", "math/bits.deBruijn32tab", "math/bits.deBruijn64tab", "internal/strconv.pow10Tab", "internal/strconv.leftcheats"], loops := true, plainKeys := false, apart := false, laid := [("math/bits.deBruijn32tab", laid_math_bits_deBruijn32tab), ("math/bits.deBruijn64tab", laid_math_bits_deBruijn64tab), ("internal/strconv.optimize", laid_internal_strconv_optimize), ("internal/strconv.uint64pow10", laid_internal_strconv_uint64pow10), ("internal/strconv.leftcheats", laid_internal_strconv_leftcheats), ("internal/strconv.pow10Tab", laid_internal_strconv_pow10Tab)], narrowed := true }
def FnPolygonJSONUptoSaid : Prop := fnPolygonJSONUptoRow.holds Tryz.pinned (OpenSpec.upto fnPolygonJSONSpec)

/-- 'laws.FnTextAppend', WHERE WHAT IT READS IS OF BULK AT MOST 1048576: true; the input reads as it did. -/
def fnTextAppendUptoRow : OpenClaim := { program := "ytofdccmmagcamaagreatdoor", sum := "d9475e7d9add8ba6d0a1b5a7b3d8ad9d50585fd2dbbad8d5cd0edcb32c53471c", func := "pub-alidade/laws.FnTextAppend", spec := "fnTextAppend", inPlace := ["internal/strconv.float32bits", "internal/strconv.float64bits"], recurses := true, named := ["internal/strconv.optimize", "internal/strconv.uint64pow10", "math/bits.deBruijn32tab", "math/bits.deBruijn64tab", "internal/strconv.pow10Tab", "internal/strconv.leftcheats"], loops := true, plainKeys := false, apart := false, laid := [("math/bits.deBruijn32tab", laid_math_bits_deBruijn32tab), ("math/bits.deBruijn64tab", laid_math_bits_deBruijn64tab), ("internal/strconv.optimize", laid_internal_strconv_optimize), ("internal/strconv.uint64pow10", laid_internal_strconv_uint64pow10), ("internal/strconv.leftcheats", laid_internal_strconv_leftcheats), ("internal/strconv.pow10Tab", laid_internal_strconv_pow10Tab)], narrowed := true }
def FnTextAppendUptoSaid : Prop := fnTextAppendUptoRow.holds Tryz.pinned (OpenSpec.upto fnTextAppendSpec)

/-- 'laws.FnTextMulti', WHERE WHAT IT READS IS OF BULK AT MOST 1048576: true; the input reads as it did. -/
def fnTextMultiUptoRow : OpenClaim := { program := "ytofdccmmagcamaagreatdoor", sum := "d9475e7d9add8ba6d0a1b5a7b3d8ad9d50585fd2dbbad8d5cd0edcb32c53471c", func := "pub-alidade/laws.FnTextMulti", spec := "fnTextMulti", inPlace := ["internal/strconv.float32bits", "internal/strconv.float64bits"], recurses := true, named := ["internal/strconv.optimize", "internal/strconv.uint64pow10", "math/bits.deBruijn32tab", "math/bits.deBruijn64tab", "internal/strconv.pow10Tab", "internal/strconv.leftcheats"], loops := true, plainKeys := false, apart := false, laid := [("math/bits.deBruijn32tab", laid_math_bits_deBruijn32tab), ("math/bits.deBruijn64tab", laid_math_bits_deBruijn64tab), ("internal/strconv.optimize", laid_internal_strconv_optimize), ("internal/strconv.uint64pow10", laid_internal_strconv_uint64pow10), ("internal/strconv.leftcheats", laid_internal_strconv_leftcheats), ("internal/strconv.pow10Tab", laid_internal_strconv_pow10Tab)], narrowed := true }
def FnTextMultiUptoSaid : Prop := fnTextMultiUptoRow.holds Tryz.pinned (OpenSpec.upto fnTextMultiSpec)

/-- 'laws.FnBytesMore', WHERE WHAT IT READS IS OF BULK AT MOST 1048576: true; the input reads as it did. -/
def fnBytesMoreUptoRow : OpenClaim := { program := "ytofdccmmagcamaagreatdoor", sum := "d9475e7d9add8ba6d0a1b5a7b3d8ad9d50585fd2dbbad8d5cd0edcb32c53471c", func := "pub-alidade/laws.FnBytesMore", spec := "fnBytesMore", inPlace := ["math.Float64bits", "math.Float64frombits", "internal/reflectlite.TypeOf", "internal/reflectlite.ValueOf", "internal/reflectlite.Swapper", "(internal/reflectlite.Value).Len"], unfollowed := true, recurses := true, named := ["encoding/binary.BigEndian", "encoding/binary.LittleEndian", "pub-alidade/pub/simplefeatures/rtree.Stop"], loops := true, plainKeys := false, apart := false, laid := [("pub-alidade/pub/simplefeatures/rtree.Stop", laid_pub_alidade_pub_simplefeatures_rtree_Stop)], narrowed := true }
def FnBytesMoreUptoSaid : Prop := fnBytesMoreUptoRow.holds Tryz.pinned (OpenSpec.upto fnBytesMoreSpec)

/-- 'laws.FnBytesOrders', WHERE WHAT IT READS IS OF BULK AT MOST 1048576: true; the input reads as it did. -/
def fnBytesOrdersUptoRow : OpenClaim := { program := "ytofdccmmagcamaagreatdoor", sum := "d9475e7d9add8ba6d0a1b5a7b3d8ad9d50585fd2dbbad8d5cd0edcb32c53471c", func := "pub-alidade/laws.FnBytesOrders", spec := "fnBytesOrders", inPlace := ["math.Float64bits", "math.Float64frombits", "internal/reflectlite.TypeOf", "internal/reflectlite.ValueOf", "internal/reflectlite.Swapper", "(internal/reflectlite.Value).Len"], unfollowed := true, recurses := true, named := ["encoding/binary.BigEndian", "encoding/binary.LittleEndian", "pub-alidade/pub/simplefeatures/rtree.Stop"], loops := true, plainKeys := false, apart := false, laid := [("pub-alidade/pub/simplefeatures/rtree.Stop", laid_pub_alidade_pub_simplefeatures_rtree_Stop)], narrowed := true }
def FnBytesOrdersUptoSaid : Prop := fnBytesOrdersUptoRow.holds Tryz.pinned (OpenSpec.upto fnBytesOrdersSpec)

end Rows
end Go.Proofs.YtofdccmmagcamaaGreatDoor
