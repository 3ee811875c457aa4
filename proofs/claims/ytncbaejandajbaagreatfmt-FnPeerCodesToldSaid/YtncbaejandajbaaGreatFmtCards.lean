/-
  DERIVED. GIVEN WITH THE SEED: THE CARDS: each row of YtncbaejandajbaaGreatFmtRows.lean that lists a variable, with what it lists TIED to the program's text (the seventh form; the later family's looks); each row that meets fmt, with fmt's text TOLD by the authors' own Lean function (tested against real Go, not proved from fmt's source: count such statements apart). THE CARD IS WHAT COUNTS. Prove the row's statement (the work); the ties are given (YtncbaejandajbaaGreatFmtTie.lean); close each card by the builder's one call (the guide's Derived/Test/ToyasCard.lean, 'card_holds'). Laid BY PROGRAM, IN A SANDBOX (cutbox-door.mjs). By AI agents, Wed Nov 11 2026. No macro, syntax, notation, axiom, sorry.
-/
import Derived.Test.YtncbaejandajbaaGreatFmtRows
import GoSem.ClaimSeven
namespace Go.Proofs.YtncbaejandajbaaGreatFmt
namespace Rows

/-- THE TOLD AND TIED CARD OF 'laws.FnPeerCodes'. -/
def fnPeerCodesCard : Claim7 := { stood := { row := fnPeerCodesRow, standIns := [], harness := (true, "c82baac87c7bc1088e4142771752cdb1d549a2ce237322b90ccd1fdcd26489c9"), looks := true }, told := true, laidByText := true, laidKinds := [.data, .data, .data, .data, .sentinel, .sentinel, .sentinel, .sentinel, .sentinel, .sentinel, .data, .data, .sentinel, .sentinel, .sentinel, .sentinel, .sentinel, .sentinel, .pinned], laidTests := true, laidLooks := .later, goes := false }
def FnPeerCodesToldSaid : Prop := Claim7.holds Tryz.pinned (.plain (OpenSpec.ofChange fnPeerCodesSpec)) fnPeerCodesCard
/-- ITS FALSE NEIGHBOUR. Refute it at one input. -/
def FnPeerCodesToldWrongFalsely : Prop := Claim7.holds Tryz.pinned (.plain (OpenSpec.ofChange fnPeerCodesWrong)) fnPeerCodesCard
end Rows
end Go.Proofs.YtncbaejandajbaaGreatFmt
