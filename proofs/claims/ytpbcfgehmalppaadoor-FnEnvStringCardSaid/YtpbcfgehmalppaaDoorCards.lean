/-
  DERIVED. GIVEN WITH THE SEED: THE CARDS: each row of YtpbcfgehmalppaaDoorRows.lean that lists a variable, with what it lists TIED to the program's text (the seventh form; the later family's looks); each row that meets fmt, with fmt's text TOLD by the authors' own Lean function (tested against real Go, not proved from fmt's source: count such statements apart). THE CARD IS WHAT COUNTS. Prove the row's statement (the work); the ties are given (YtpbcfgehmalppaaDoorTie.lean); close each card by the builder's one call (the guide's Derived/Test/ToyasCard.lean, 'card_holds'). Laid BY PROGRAM, IN A SANDBOX (cutbox-door.mjs). By AI agents, Wed Nov 11 2026. No macro, syntax, notation, axiom, sorry.
-/
import Derived.Test.YtpbcfgehmalppaaDoorRows
import GoSem.ClaimSeven
namespace Go.Proofs.YtpbcfgehmalppaaDoor
namespace Rows

/-- THE TIED CARD OF 'laws.FnWritePlace'. -/
def fnWritePlaceCard : Claim7 := { stood := { row := fnWritePlaceRow, standIns := [], harness := (true, "d174c172a8a3d6810f74c80247dae080d42373087452ab22a14e7ccae3b37492"), looks := false }, kinds := [], alts := [], laidByText := true, laidKinds := [.data, .data, .data, .data, .pinned, .pinned], laidTests := true, laidLooks := .later }
def FnWritePlaceCardSaid : Prop := Claim7.holds Tryd.pinned (.plain (OpenSpec.ofChange fnWritePlaceSpec)) fnWritePlaceCard

/-- THE TIED CARD OF 'laws.FnPointJSONDecimal'. -/
def fnPointJSONDecimalCard : Claim7 := { stood := { row := fnPointJSONDecimalRow, standIns := [], harness := (true, "d174c172a8a3d6810f74c80247dae080d42373087452ab22a14e7ccae3b37492"), looks := false }, kinds := [], alts := [], laidByText := true, laidKinds := [.data, .data, .data, .data, .pinned, .pinned], laidTests := true, laidLooks := .later }
def FnPointJSONDecimalCardSaid : Prop := Claim7.holds Tryd.pinned (.plain (OpenSpec.ofChange fnPointJSONDecimalSpec)) fnPointJSONDecimalCard

/-- THE TIED CARD OF 'laws.FnPointJSON'. -/
def fnPointJSONCard : Claim7 := { stood := { row := fnPointJSONRow, standIns := [], harness := (true, "d174c172a8a3d6810f74c80247dae080d42373087452ab22a14e7ccae3b37492"), looks := false }, kinds := [], alts := [], laidByText := true, laidKinds := [.data, .data, .data, .data, .pinned, .pinned], laidTests := true, laidLooks := .later }
def FnPointJSONCardSaid : Prop := Claim7.holds Tryd.pinned (.plain (OpenSpec.ofChange fnPointJSONSpec)) fnPointJSONCard

/-- THE TIED CARD OF 'laws.FnEnvString'. -/
def fnEnvStringCard : Claim7 := { stood := { row := fnEnvStringRow, standIns := [], harness := (true, "d174c172a8a3d6810f74c80247dae080d42373087452ab22a14e7ccae3b37492"), looks := false }, kinds := [], alts := [], laidByText := true, laidKinds := [.data, .data, .data, .data, .pinned, .pinned], laidTests := true, laidLooks := .later }
def FnEnvStringCardSaid : Prop := Claim7.holds Tryd.pinned (.plain (OpenSpec.ofChange fnEnvStringSpec)) fnEnvStringCard

/-- THE SECOND FORM's CARD OF 'laws.FnWritePlace'. -/
def fnWritePlaceUptoCard : Claim7 := { stood := { row := fnWritePlaceUptoRow, standIns := [], harness := (true, "d174c172a8a3d6810f74c80247dae080d42373087452ab22a14e7ccae3b37492"), looks := false }, kinds := [], alts := [], laidByText := true, laidKinds := [.data, .data, .data, .data, .pinned, .pinned], laidTests := true, laidLooks := .later }
def FnWritePlaceUptoCardSaid : Prop := Claim7.holds Tryd.pinned (.plain (OpenSpec.upto fnWritePlaceSpec)) fnWritePlaceUptoCard

/-- THE SECOND FORM's CARD OF 'laws.FnPointJSONDecimal'. -/
def fnPointJSONDecimalUptoCard : Claim7 := { stood := { row := fnPointJSONDecimalUptoRow, standIns := [], harness := (true, "d174c172a8a3d6810f74c80247dae080d42373087452ab22a14e7ccae3b37492"), looks := false }, kinds := [], alts := [], laidByText := true, laidKinds := [.data, .data, .data, .data, .pinned, .pinned], laidTests := true, laidLooks := .later }
def FnPointJSONDecimalUptoCardSaid : Prop := Claim7.holds Tryd.pinned (.plain (OpenSpec.upto fnPointJSONDecimalSpec)) fnPointJSONDecimalUptoCard

/-- THE SECOND FORM's CARD OF 'laws.FnPointJSON'. -/
def fnPointJSONUptoCard : Claim7 := { stood := { row := fnPointJSONUptoRow, standIns := [], harness := (true, "d174c172a8a3d6810f74c80247dae080d42373087452ab22a14e7ccae3b37492"), looks := false }, kinds := [], alts := [], laidByText := true, laidKinds := [.data, .data, .data, .data, .pinned, .pinned], laidTests := true, laidLooks := .later }
def FnPointJSONUptoCardSaid : Prop := Claim7.holds Tryd.pinned (.plain (OpenSpec.upto fnPointJSONSpec)) fnPointJSONUptoCard

/-- THE SECOND FORM's CARD OF 'laws.FnEnvString'. -/
def fnEnvStringUptoCard : Claim7 := { stood := { row := fnEnvStringUptoRow, standIns := [], harness := (true, "d174c172a8a3d6810f74c80247dae080d42373087452ab22a14e7ccae3b37492"), looks := false }, kinds := [], alts := [], laidByText := true, laidKinds := [.data, .data, .data, .data, .pinned, .pinned], laidTests := true, laidLooks := .later }
def FnEnvStringUptoCardSaid : Prop := Claim7.holds Tryd.pinned (.plain (OpenSpec.upto fnEnvStringSpec)) fnEnvStringUptoCard
end Rows
end Go.Proofs.YtpbcfgehmalppaaDoor
