/-
  DERIVED. GIVEN WITH THE SEED: THE CARDS: each row of YtbcnhcpgloncdaaGreatDoorRows.lean that lists a variable, with what it lists TIED to the program's text (the seventh form; the later family's looks); each row that meets fmt, with fmt's text TOLD by the authors' own Lean function (tested against real Go, not proved from fmt's source: count such statements apart). THE CARD IS WHAT COUNTS. Prove the row's statement (the work); the ties are given (YtbcnhcpgloncdaaGreatDoorTie.lean); close each card by the builder's one call (the guide's Derived/Test/ToyasCard.lean, 'card_holds'). Laid BY PROGRAM, IN A SANDBOX (cutbox-door.mjs). By AI agents, Wed Nov 11 2026. No macro, syntax, notation, axiom, sorry.
-/
import Derived.Test.YtbcnhcpgloncdaaGreatDoorRows
import GoSem.ClaimSeven
namespace Go.Proofs.YtbcnhcpgloncdaaGreatDoor
namespace Rows

/-- THE TIED CARD OF 'laws.FnFunctionScore'. -/
def fnFunctionScoreCard : Claim7 := { stood := { row := fnFunctionScoreRow, standIns := [], harness := (true, "bcdd4350f3b147fe1f9561fc5eb0f90d4c2ad750e817c96e528540a99787bafb"), looks := true }, kinds := [], alts := [], laidByText := true, laidKinds := [.data, .pinned, .pinned], laidTests := true, laidLooks := .later }
def FnFunctionScoreCardSaid : Prop := Claim7.holds Tryz.pinned (.plain (OpenSpec.ofChange fnFunctionScoreSpec)) fnFunctionScoreCard

/-- THE TIED CARD OF 'laws.FnQueryStringTurned'. -/
def fnQueryStringTurnedCard : Claim7 := { stood := { row := fnQueryStringTurnedRow, standIns := [], harness := (true, "bcdd4350f3b147fe1f9561fc5eb0f90d4c2ad750e817c96e528540a99787bafb"), looks := true }, kinds := [], alts := [], laidByText := true, laidKinds := [.data, .data, .data, .data, .pinned, .pinned], laidTests := true, laidLooks := .later }
def FnQueryStringTurnedCardSaid : Prop := Claim7.holds Tryz.pinned (.plain (OpenSpec.ofChange fnQueryStringTurnedSpec)) fnQueryStringTurnedCard

/-- THE TIED CARD OF 'laws.FnBool'. -/
def fnBoolCard : Claim7 := { stood := { row := fnBoolRow, standIns := [], harness := (true, "bcdd4350f3b147fe1f9561fc5eb0f90d4c2ad750e817c96e528540a99787bafb"), looks := true }, kinds := [], alts := [], laidByText := true, laidKinds := [.data, .data, .data, .data, .pinned, .pinned], laidTests := true, laidLooks := .later }
def FnBoolCardSaid : Prop := Claim7.holds Tryz.pinned (.plain (OpenSpec.ofChange fnBoolSpec)) fnBoolCard

/-- THE SECOND FORM's CARD OF 'laws.FnFunctionScore'. -/
def fnFunctionScoreUptoCard : Claim7 := { stood := { row := fnFunctionScoreUptoRow, standIns := [], harness := (true, "bcdd4350f3b147fe1f9561fc5eb0f90d4c2ad750e817c96e528540a99787bafb"), looks := true }, kinds := [], alts := [], laidByText := true, laidKinds := [.data, .pinned, .pinned], laidTests := true, laidLooks := .later }
def FnFunctionScoreUptoCardSaid : Prop := Claim7.holds Tryz.pinned (.plain (OpenSpec.upto fnFunctionScoreSpec)) fnFunctionScoreUptoCard

/-- THE SECOND FORM's CARD OF 'laws.FnQueryStringTurned'. -/
def fnQueryStringTurnedUptoCard : Claim7 := { stood := { row := fnQueryStringTurnedUptoRow, standIns := [], harness := (true, "bcdd4350f3b147fe1f9561fc5eb0f90d4c2ad750e817c96e528540a99787bafb"), looks := true }, kinds := [], alts := [], laidByText := true, laidKinds := [.data, .data, .data, .data, .pinned, .pinned], laidTests := true, laidLooks := .later }
def FnQueryStringTurnedUptoCardSaid : Prop := Claim7.holds Tryz.pinned (.plain (OpenSpec.upto fnQueryStringTurnedSpec)) fnQueryStringTurnedUptoCard

/-- THE SECOND FORM's CARD OF 'laws.FnBool'. -/
def fnBoolUptoCard : Claim7 := { stood := { row := fnBoolUptoRow, standIns := [], harness := (true, "bcdd4350f3b147fe1f9561fc5eb0f90d4c2ad750e817c96e528540a99787bafb"), looks := true }, kinds := [], alts := [], laidByText := true, laidKinds := [.data, .data, .data, .data, .pinned, .pinned], laidTests := true, laidLooks := .later }
def FnBoolUptoCardSaid : Prop := Claim7.holds Tryz.pinned (.plain (OpenSpec.upto fnBoolSpec)) fnBoolUptoCard
end Rows
end Go.Proofs.YtbcnhcpgloncdaaGreatDoor
