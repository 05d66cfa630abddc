/-
  DERIVED. GIVEN WITH THE SEED: THE CARDS: each row of YtpbcfgehmalppaaGreatDoorRows.lean that lists a variable, with what it lists TIED to the program's text (the seventh form; the later family's looks); each row that meets fmt, with fmt's text TOLD by the authors' own Lean function (tested against real Go, not proved from fmt's source: count such statements apart). THE CARD IS WHAT COUNTS. Prove the row's statement (the work); the ties are given (YtpbcfgehmalppaaGreatDoorTie.lean); close each card by the builder's one call (the guide's Derived/Test/ToyasCard.lean, 'card_holds'). Laid BY PROGRAM, IN A SANDBOX (cutbox-door.mjs). By AI agents, Wed Nov 11 2026. No macro, syntax, notation, axiom, sorry.
-/
import Derived.Test.YtpbcfgehmalppaaGreatDoorRows
import GoSem.ClaimSeven
namespace Go.Proofs.YtpbcfgehmalppaaGreatDoor
namespace Rows

/-- THE TIED CARD OF 'laws.FnPointText'. -/
def fnPointTextCard : Claim7 := { stood := { row := fnPointTextRow, standIns := [], harness := (true, "7d10880d0100bb61184fffae3825abb45b511aa7be47748017cd4e8d360c3ad9"), looks := true }, kinds := [], alts := [], laidByText := true, laidKinds := [.data, .data, .data, .data, .pinned, .pinned], laidTests := true, laidLooks := .later }
def FnPointTextCardSaid : Prop := Claim7.holds Tryz.pinned (.plain (OpenSpec.ofChange fnPointTextSpec)) fnPointTextCard

/-- THE TIED CARD OF 'laws.FnPolygonJSON'. -/
def fnPolygonJSONCard : Claim7 := { stood := { row := fnPolygonJSONRow, standIns := [], harness := (true, "7d10880d0100bb61184fffae3825abb45b511aa7be47748017cd4e8d360c3ad9"), looks := true }, kinds := [], alts := [], laidByText := true, laidKinds := [.data, .data, .data, .data, .pinned, .pinned], laidTests := true, laidLooks := .later }
def FnPolygonJSONCardSaid : Prop := Claim7.holds Tryz.pinned (.plain (OpenSpec.ofChange fnPolygonJSONSpec)) fnPolygonJSONCard

/-- THE TIED CARD OF 'laws.FnMultiLineText'. -/
def fnMultiLineTextCard : Claim7 := { stood := { row := fnMultiLineTextRow, standIns := [], harness := (true, "7d10880d0100bb61184fffae3825abb45b511aa7be47748017cd4e8d360c3ad9"), looks := true }, kinds := [], alts := [], laidByText := true, laidKinds := [.data, .data, .data, .data, .pinned, .pinned], laidTests := true, laidLooks := .later }
def FnMultiLineTextCardSaid : Prop := Claim7.holds Tryz.pinned (.plain (OpenSpec.ofChange fnMultiLineTextSpec)) fnMultiLineTextCard

/-- THE TIED CARD OF 'laws.FnPolygonText'. -/
def fnPolygonTextCard : Claim7 := { stood := { row := fnPolygonTextRow, standIns := [], harness := (true, "7d10880d0100bb61184fffae3825abb45b511aa7be47748017cd4e8d360c3ad9"), looks := true }, kinds := [], alts := [], laidByText := true, laidKinds := [.data, .data, .data, .data, .pinned, .pinned], laidTests := true, laidLooks := .later }
def FnPolygonTextCardSaid : Prop := Claim7.holds Tryz.pinned (.plain (OpenSpec.ofChange fnPolygonTextSpec)) fnPolygonTextCard

/-- THE TIED CARD OF 'laws.FnTextAppend'. -/
def fnTextAppendCard : Claim7 := { stood := { row := fnTextAppendRow, standIns := [], harness := (true, "7d10880d0100bb61184fffae3825abb45b511aa7be47748017cd4e8d360c3ad9"), looks := true }, kinds := [], alts := [], laidByText := true, laidKinds := [.data, .data, .data, .data, .pinned, .pinned], laidTests := true, laidLooks := .later }
def FnTextAppendCardSaid : Prop := Claim7.holds Tryz.pinned (.plain (OpenSpec.ofChange fnTextAppendSpec)) fnTextAppendCard

/-- THE TIED CARD OF 'laws.FnTextMulti'. -/
def fnTextMultiCard : Claim7 := { stood := { row := fnTextMultiRow, standIns := [], harness := (true, "7d10880d0100bb61184fffae3825abb45b511aa7be47748017cd4e8d360c3ad9"), looks := true }, kinds := [], alts := [], laidByText := true, laidKinds := [.data, .data, .data, .data, .pinned, .pinned], laidTests := true, laidLooks := .later }
def FnTextMultiCardSaid : Prop := Claim7.holds Tryz.pinned (.plain (OpenSpec.ofChange fnTextMultiSpec)) fnTextMultiCard

/-- THE SECOND FORM's CARD OF 'laws.FnPointText'. -/
def fnPointTextUptoCard : Claim7 := { stood := { row := fnPointTextUptoRow, standIns := [], harness := (true, "7d10880d0100bb61184fffae3825abb45b511aa7be47748017cd4e8d360c3ad9"), looks := true }, kinds := [], alts := [], laidByText := true, laidKinds := [.data, .data, .data, .data, .pinned, .pinned], laidTests := true, laidLooks := .later }
def FnPointTextUptoCardSaid : Prop := Claim7.holds Tryz.pinned (.plain (OpenSpec.upto fnPointTextSpec)) fnPointTextUptoCard

/-- THE SECOND FORM's CARD OF 'laws.FnPolygonJSON'. -/
def fnPolygonJSONUptoCard : Claim7 := { stood := { row := fnPolygonJSONUptoRow, standIns := [], harness := (true, "7d10880d0100bb61184fffae3825abb45b511aa7be47748017cd4e8d360c3ad9"), looks := true }, kinds := [], alts := [], laidByText := true, laidKinds := [.data, .data, .data, .data, .pinned, .pinned], laidTests := true, laidLooks := .later }
def FnPolygonJSONUptoCardSaid : Prop := Claim7.holds Tryz.pinned (.plain (OpenSpec.upto fnPolygonJSONSpec)) fnPolygonJSONUptoCard

/-- THE SECOND FORM's CARD OF 'laws.FnMultiLineText'. -/
def fnMultiLineTextUptoCard : Claim7 := { stood := { row := fnMultiLineTextUptoRow, standIns := [], harness := (true, "7d10880d0100bb61184fffae3825abb45b511aa7be47748017cd4e8d360c3ad9"), looks := true }, kinds := [], alts := [], laidByText := true, laidKinds := [.data, .data, .data, .data, .pinned, .pinned], laidTests := true, laidLooks := .later }
def FnMultiLineTextUptoCardSaid : Prop := Claim7.holds Tryz.pinned (.plain (OpenSpec.upto fnMultiLineTextSpec)) fnMultiLineTextUptoCard

/-- THE SECOND FORM's CARD OF 'laws.FnPolygonText'. -/
def fnPolygonTextUptoCard : Claim7 := { stood := { row := fnPolygonTextUptoRow, standIns := [], harness := (true, "7d10880d0100bb61184fffae3825abb45b511aa7be47748017cd4e8d360c3ad9"), looks := true }, kinds := [], alts := [], laidByText := true, laidKinds := [.data, .data, .data, .data, .pinned, .pinned], laidTests := true, laidLooks := .later }
def FnPolygonTextUptoCardSaid : Prop := Claim7.holds Tryz.pinned (.plain (OpenSpec.upto fnPolygonTextSpec)) fnPolygonTextUptoCard

/-- THE SECOND FORM's CARD OF 'laws.FnTextAppend'. -/
def fnTextAppendUptoCard : Claim7 := { stood := { row := fnTextAppendUptoRow, standIns := [], harness := (true, "7d10880d0100bb61184fffae3825abb45b511aa7be47748017cd4e8d360c3ad9"), looks := true }, kinds := [], alts := [], laidByText := true, laidKinds := [.data, .data, .data, .data, .pinned, .pinned], laidTests := true, laidLooks := .later }
def FnTextAppendUptoCardSaid : Prop := Claim7.holds Tryz.pinned (.plain (OpenSpec.upto fnTextAppendSpec)) fnTextAppendUptoCard

/-- THE SECOND FORM's CARD OF 'laws.FnTextMulti'. -/
def fnTextMultiUptoCard : Claim7 := { stood := { row := fnTextMultiUptoRow, standIns := [], harness := (true, "7d10880d0100bb61184fffae3825abb45b511aa7be47748017cd4e8d360c3ad9"), looks := true }, kinds := [], alts := [], laidByText := true, laidKinds := [.data, .data, .data, .data, .pinned, .pinned], laidTests := true, laidLooks := .later }
def FnTextMultiUptoCardSaid : Prop := Claim7.holds Tryz.pinned (.plain (OpenSpec.upto fnTextMultiSpec)) fnTextMultiUptoCard
end Rows
end Go.Proofs.YtpbcfgehmalppaaGreatDoor
