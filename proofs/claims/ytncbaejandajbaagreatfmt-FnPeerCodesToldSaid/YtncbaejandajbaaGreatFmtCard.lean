/- Rows.FnPeerCodesToldSaid: the told and tied card of laws.FnPeerCodes: for every number and all bytes (nil too) the call returns true and its arguments read as before; the listed variables hold what the program's own text lays, and fmt's texts are told by the form (no way of this law reads one). -/
import Derived.Test.YtncbaejandajbaaGreatFmtTop
import Derived.Test.YtncbaejandajbaaGreatFmtTie
import Derived.SevenTiedAt
namespace Go.Proofs.YtncbaejandajbaaGreatFmt
open Go.Extern.Stop Go.Stop Go.Extern

theorem pinLaidOut : laidOutB Tryz.pinned.checked.prog = true := by kernel_rfl
theorem pinStops : Tryz.pinned.checked.prog.stops = ["fmt.Sprintf"] := by kernel_rfl
theorem pinKnobs : Tryz.pinned.checked.prog.stopKnobs = [] := by kernel_rfl
theorem pinQuiet (os : Os) : Stop.quiet Tryz.pinned.checked.prog os := by
  intro k hk
  rw [pinKnobs] at hk
  cases hk

set_option maxRecDepth 1000000 in
theorem fnPeerCodes_holds : Rows.FnPeerCodesToldSaid :=
  Claim7.holds_of_told_tied_any_at .later 3 Tryz.f3 "fmt.Sprintf" [] [] _ _ _ _ _ (by kernel_rfl) rfl rfl rfl pinLaidOut (by kernel_rfl) rfl ⟨rfl, rfl, rfl, rfl, rfl, rfl, rfl⟩ rfl rfl (by kernel_rfl) (by kernel_rfl) Tryz.func3 (by kernel_rfl)
    (of_decide_eq_true (by kernel_rfl)) (by unfold Func.isWrapper; first | (rw [if_pos (by decide +kernel)]; kernel_rfl) | (rw [if_neg (by decide +kernel)]; exact ⟨rfl, rfl⟩)) pinStops.symm rfl pinKnobs.symm (by kernel_rfl)
    (by kernel_rfl) (by kernel_rfl) (by kernel_rfl) (by kernel_rfl) (by kernel_rfl) (by kernel_rfl) (by kernel_rfl) (by kernel_rfl) (by kernel_rfl) rfl (by kernel_rfl) rfl rfl
    rfl rfl
    rfl (by kernel_rfl) (by kernel_rfl) (by kernel_rfl) (by decide) (by kernel_rfl) fnPeerCodes_row_tie
    (OpenClaim.moreEntering_of (by kernel_rfl) (by kernel_rfl) (by kernel_rfl) (by kernel_rfl) (by kernel_rfl) (by kernel_rfl) (by kernel_rfl) (by kernel_rfl) (by kernel_rfl) (by kernel_rfl))
    ⟨_, WideRow.started_initial, pinQuiet _⟩
    (fun os started _ H enc _ => t_lifted os started H enc)

#print axioms fnPeerCodes_holds
end Go.Proofs.YtncbaejandajbaaGreatFmt
