/-
  DERIVED. GIVEN WITH THE SEED: THE CARDS: each row of YtilngifollpoeaaGreatFmtRows.lean that lists a variable, with what it lists TIED to the program's text (the seventh form; the later family's looks); each row that meets fmt, with fmt's text TOLD by the authors' own Lean function (tested against real Go, not proved from fmt's source: count such statements apart). THE CARD IS WHAT COUNTS. Prove the row's statement (the work); the ties are given (YtilngifollpoeaaGreatFmtTie.lean); close each card by the builder's one call (the guide's Derived/Test/ToyasCard.lean, 'card_holds'). Laid BY PROGRAM, IN A SANDBOX (cutbox-door.mjs). By AI agents, Wed Nov 11 2026. No macro, syntax, notation, axiom, sorry.
-/
import Derived.Test.YtilngifollpoeaaGreatFmtRows
import GoSem.ClaimSeven
namespace Go.Proofs.YtilngifollpoeaaGreatFmt
namespace Rows

/-- THE TOLD AND TIED CARD OF 'laws.FnPeerRoads'. -/
def fnPeerRoadsCard : Claim7 := { stood := { row := fnPeerRoadsRow, standIns := [], harness := (true, "9924d2e586572b5c5c8dc77af758307c4b45ce64821aa028f8909d57607a1d0c"), looks := true }, told := true, laidByText := true, laidKinds := [.sentinel, .sentinel, .sentinel, .sentinel, .sentinel, .sentinel, .sentinel, .sentinel, .sentinel, .sentinel, .sentinel, .sentinel, .sentinel, .pinned, .data, .sentinel, .sentinel, .data, .data, .data, .sentinel, .data, .data], laidTests := true, laidLooks := .later, goes := false }
def FnPeerRoadsToldSaid : Prop := Claim7.holds Tryz.pinned (.plain (OpenSpec.ofChange fnPeerRoadsSpec)) fnPeerRoadsCard
/-- ITS FALSE NEIGHBOUR. Refute it at one input. -/
def FnPeerRoadsToldWrongFalsely : Prop := Claim7.holds Tryz.pinned (.plain (OpenSpec.ofChange fnPeerRoadsWrong)) fnPeerRoadsCard
end Rows
end Go.Proofs.YtilngifollpoeaaGreatFmt
