/-
  DERIVED. GIVEN WITH THE SEED: THE CARDS: each row of YtilgpaeeleknhaaGreatDoorRows.lean that lists a variable, with what it lists TIED to the program's text (the seventh form; the later family's looks); each row that meets fmt, with fmt's text TOLD by the authors' own Lean function (tested against real Go, not proved from fmt's source: count such statements apart). THE CARD IS WHAT COUNTS. Prove the row's statement (the work); the ties are given (YtilgpaeeleknhaaGreatDoorTie.lean); close each card by the builder's one call (the guide's Derived/Test/ToyasCard.lean, 'card_holds'). Laid BY PROGRAM, IN A SANDBOX (cutbox-door.mjs). By AI agents, Wed Nov 11 2026. No macro, syntax, notation, axiom, sorry.
-/
import Derived.Test.YtilgpaeeleknhaaGreatDoorRows
import GoSem.ClaimSeven
namespace Go.Proofs.YtilgpaeeleknhaaGreatDoor
namespace Rows

/-- THE TIED CARD OF 'laws.FnIsoRock'. -/
def fnIsoRockCard : Claim7 := { stood := { row := fnIsoRockRow, standIns := [], harness := (true, "b0240fe3b9203247f03b7689ddbffcd335328b61a8febba830cdb4a711ad05c8"), looks := true }, kinds := [], alts := [], laidByText := true, laidKinds := [.data, .sentinel, .pinned], laidTests := true, laidLooks := .later }
def FnIsoRockCardSaid : Prop := Claim7.holds Tryz.pinned (.plain (OpenSpec.ofChange fnIsoRockSpec)) fnIsoRockCard

/-- THE TIED CARD OF 'laws.FnIsoWords'. -/
def fnIsoWordsCard : Claim7 := { stood := { row := fnIsoWordsRow, standIns := [], harness := (true, "b0240fe3b9203247f03b7689ddbffcd335328b61a8febba830cdb4a711ad05c8"), looks := true }, kinds := [], alts := [], laidByText := true, laidKinds := [.data, .sentinel, .pinned], laidTests := true, laidLooks := .later }
def FnIsoWordsCardSaid : Prop := Claim7.holds Tryz.pinned (.plain (OpenSpec.ofChange fnIsoWordsSpec)) fnIsoWordsCard

/-- THE TIED CARD OF 'laws.FnIsoPaths'. -/
def fnIsoPathsCard : Claim7 := { stood := { row := fnIsoPathsRow, standIns := [], harness := (true, "b0240fe3b9203247f03b7689ddbffcd335328b61a8febba830cdb4a711ad05c8"), looks := true }, kinds := [], alts := [], laidByText := true, laidKinds := [.data, .sentinel, .pinned], laidTests := true, laidLooks := .later }
def FnIsoPathsCardSaid : Prop := Claim7.holds Tryz.pinned (.plain (OpenSpec.ofChange fnIsoPathsSpec)) fnIsoPathsCard

/-- THE SECOND FORM's CARD OF 'laws.FnIsoRock'. -/
def fnIsoRockUptoCard : Claim7 := { stood := { row := fnIsoRockUptoRow, standIns := [], harness := (true, "b0240fe3b9203247f03b7689ddbffcd335328b61a8febba830cdb4a711ad05c8"), looks := true }, kinds := [], alts := [], laidByText := true, laidKinds := [.data, .sentinel, .pinned], laidTests := true, laidLooks := .later }
def FnIsoRockUptoCardSaid : Prop := Claim7.holds Tryz.pinned (.plain (OpenSpec.upto fnIsoRockSpec)) fnIsoRockUptoCard

/-- THE SECOND FORM's CARD OF 'laws.FnIsoWords'. -/
def fnIsoWordsUptoCard : Claim7 := { stood := { row := fnIsoWordsUptoRow, standIns := [], harness := (true, "b0240fe3b9203247f03b7689ddbffcd335328b61a8febba830cdb4a711ad05c8"), looks := true }, kinds := [], alts := [], laidByText := true, laidKinds := [.data, .sentinel, .pinned], laidTests := true, laidLooks := .later }
def FnIsoWordsUptoCardSaid : Prop := Claim7.holds Tryz.pinned (.plain (OpenSpec.upto fnIsoWordsSpec)) fnIsoWordsUptoCard

/-- THE SECOND FORM's CARD OF 'laws.FnIsoPaths'. -/
def fnIsoPathsUptoCard : Claim7 := { stood := { row := fnIsoPathsUptoRow, standIns := [], harness := (true, "b0240fe3b9203247f03b7689ddbffcd335328b61a8febba830cdb4a711ad05c8"), looks := true }, kinds := [], alts := [], laidByText := true, laidKinds := [.data, .sentinel, .pinned], laidTests := true, laidLooks := .later }
def FnIsoPathsUptoCardSaid : Prop := Claim7.holds Tryz.pinned (.plain (OpenSpec.upto fnIsoPathsSpec)) fnIsoPathsUptoCard
end Rows
end Go.Proofs.YtilgpaeeleknhaaGreatDoor
