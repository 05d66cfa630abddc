/-
  DERIVED. GIVEN WITH THE SEED: THE CARDS: each row of YtofdccmmagcamaaGreatDoorRows.lean that lists a variable, with what it lists TIED to the program's text (the seventh form; the later family's looks); each row that meets fmt, with fmt's text TOLD by the authors' own Lean function (tested against real Go, not proved from fmt's source: count such statements apart). THE CARD IS WHAT COUNTS. Prove the row's statement (the work); the ties are given (YtofdccmmagcamaaGreatDoorTie.lean); close each card by the builder's one call (the guide's Derived/Test/ToyasCard.lean, 'card_holds'). Laid BY PROGRAM, IN A SANDBOX (cutbox-door.mjs). By AI agents, Wed Nov 11 2026. No macro, syntax, notation, axiom, sorry.
-/
import Derived.Test.YtofdccmmagcamaaGreatDoorRows
import GoSem.ClaimSeven
namespace Go.Proofs.YtofdccmmagcamaaGreatDoor
namespace Rows

/-- THE TIED CARD OF 'laws.FnPolygonJSON'. -/
def fnPolygonJSONCard : Claim7 := { stood := { row := fnPolygonJSONRow, standIns := [], harness := (true, "8c402c591acb71499b21c3cb2d1dcfd265e15486cea790e13bc2d29562645016"), looks := true }, kinds := [], alts := [], laidByText := true, laidKinds := [.data, .data, .data, .data, .pinned, .pinned], laidTests := true, laidLooks := .later }
def FnPolygonJSONCardSaid : Prop := Claim7.holds Tryz.pinned (.plain (OpenSpec.ofChange fnPolygonJSONSpec)) fnPolygonJSONCard

/-- THE TIED CARD OF 'laws.FnTextAppend'. -/
def fnTextAppendCard : Claim7 := { stood := { row := fnTextAppendRow, standIns := [], harness := (true, "8c402c591acb71499b21c3cb2d1dcfd265e15486cea790e13bc2d29562645016"), looks := true }, kinds := [], alts := [], laidByText := true, laidKinds := [.data, .data, .data, .data, .pinned, .pinned], laidTests := true, laidLooks := .later }
def FnTextAppendCardSaid : Prop := Claim7.holds Tryz.pinned (.plain (OpenSpec.ofChange fnTextAppendSpec)) fnTextAppendCard

/-- THE TIED CARD OF 'laws.FnTextMulti'. -/
def fnTextMultiCard : Claim7 := { stood := { row := fnTextMultiRow, standIns := [], harness := (true, "8c402c591acb71499b21c3cb2d1dcfd265e15486cea790e13bc2d29562645016"), looks := true }, kinds := [], alts := [], laidByText := true, laidKinds := [.data, .data, .data, .data, .pinned, .pinned], laidTests := true, laidLooks := .later }
def FnTextMultiCardSaid : Prop := Claim7.holds Tryz.pinned (.plain (OpenSpec.ofChange fnTextMultiSpec)) fnTextMultiCard

/-- THE TIED CARD OF 'laws.FnBytesMore'. -/
def fnBytesMoreCard : Claim7 := { stood := { row := fnBytesMoreRow, standIns := [], harness := (true, "8c402c591acb71499b21c3cb2d1dcfd265e15486cea790e13bc2d29562645016"), looks := true }, kinds := [], alts := [], laidByText := true, laidKinds := [.sentinel], laidTests := true, laidLooks := .later }
def FnBytesMoreCardSaid : Prop := Claim7.holds Tryz.pinned (.plain (OpenSpec.ofChange fnBytesMoreSpec)) fnBytesMoreCard

/-- THE TIED CARD OF 'laws.FnBytesOrders'. -/
def fnBytesOrdersCard : Claim7 := { stood := { row := fnBytesOrdersRow, standIns := [], harness := (true, "8c402c591acb71499b21c3cb2d1dcfd265e15486cea790e13bc2d29562645016"), looks := true }, kinds := [], alts := [], laidByText := true, laidKinds := [.sentinel], laidTests := true, laidLooks := .later }
def FnBytesOrdersCardSaid : Prop := Claim7.holds Tryz.pinned (.plain (OpenSpec.ofChange fnBytesOrdersSpec)) fnBytesOrdersCard

/-- THE SECOND FORM's CARD OF 'laws.FnPolygonJSON'. -/
def fnPolygonJSONUptoCard : Claim7 := { stood := { row := fnPolygonJSONUptoRow, standIns := [], harness := (true, "8c402c591acb71499b21c3cb2d1dcfd265e15486cea790e13bc2d29562645016"), looks := true }, kinds := [], alts := [], laidByText := true, laidKinds := [.data, .data, .data, .data, .pinned, .pinned], laidTests := true, laidLooks := .later }
def FnPolygonJSONUptoCardSaid : Prop := Claim7.holds Tryz.pinned (.plain (OpenSpec.upto fnPolygonJSONSpec)) fnPolygonJSONUptoCard

/-- THE SECOND FORM's CARD OF 'laws.FnTextAppend'. -/
def fnTextAppendUptoCard : Claim7 := { stood := { row := fnTextAppendUptoRow, standIns := [], harness := (true, "8c402c591acb71499b21c3cb2d1dcfd265e15486cea790e13bc2d29562645016"), looks := true }, kinds := [], alts := [], laidByText := true, laidKinds := [.data, .data, .data, .data, .pinned, .pinned], laidTests := true, laidLooks := .later }
def FnTextAppendUptoCardSaid : Prop := Claim7.holds Tryz.pinned (.plain (OpenSpec.upto fnTextAppendSpec)) fnTextAppendUptoCard

/-- THE SECOND FORM's CARD OF 'laws.FnTextMulti'. -/
def fnTextMultiUptoCard : Claim7 := { stood := { row := fnTextMultiUptoRow, standIns := [], harness := (true, "8c402c591acb71499b21c3cb2d1dcfd265e15486cea790e13bc2d29562645016"), looks := true }, kinds := [], alts := [], laidByText := true, laidKinds := [.data, .data, .data, .data, .pinned, .pinned], laidTests := true, laidLooks := .later }
def FnTextMultiUptoCardSaid : Prop := Claim7.holds Tryz.pinned (.plain (OpenSpec.upto fnTextMultiSpec)) fnTextMultiUptoCard

/-- THE SECOND FORM's CARD OF 'laws.FnBytesMore'. -/
def fnBytesMoreUptoCard : Claim7 := { stood := { row := fnBytesMoreUptoRow, standIns := [], harness := (true, "8c402c591acb71499b21c3cb2d1dcfd265e15486cea790e13bc2d29562645016"), looks := true }, kinds := [], alts := [], laidByText := true, laidKinds := [.sentinel], laidTests := true, laidLooks := .later }
def FnBytesMoreUptoCardSaid : Prop := Claim7.holds Tryz.pinned (.plain (OpenSpec.upto fnBytesMoreSpec)) fnBytesMoreUptoCard

/-- THE SECOND FORM's CARD OF 'laws.FnBytesOrders'. -/
def fnBytesOrdersUptoCard : Claim7 := { stood := { row := fnBytesOrdersUptoRow, standIns := [], harness := (true, "8c402c591acb71499b21c3cb2d1dcfd265e15486cea790e13bc2d29562645016"), looks := true }, kinds := [], alts := [], laidByText := true, laidKinds := [.sentinel], laidTests := true, laidLooks := .later }
def FnBytesOrdersUptoCardSaid : Prop := Claim7.holds Tryz.pinned (.plain (OpenSpec.upto fnBytesOrdersSpec)) fnBytesOrdersUptoCard
end Rows
end Go.Proofs.YtofdccmmagcamaaGreatDoor
