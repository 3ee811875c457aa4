/- Rows.FnPeerRoadsToldSaid: the told and tied card of laws.FnPeerRoads: for every number, all bytes and all ways (nil too) the call returns true and its arguments read as before; the listed variables hold what the program's own text lays, and fmt's texts are told by the form (no way of this law reads one). -/
import Derived.Test.YtilngifollpoeaaGreatFmtTopR
import Derived.Test.YtilngifollpoeaaGreatFmtTieb
import Derived.SevenTiedAt
namespace Go.Proofs.YtilngifollpoeaaGreatFmt
open Go.Extern.Stop Go.Stop Go.Extern

-- the row's closed facts, each by itself
theorem pinLaidOut : laidOutB Tryz.pinned.checked.prog = true := by kernel_rfl
theorem pinStops : Tryz.pinned.checked.prog.stops = ["fmt.Sprintf"] := by kernel_rfl
theorem pinKnobs : Tryz.pinned.checked.prog.stopKnobs = [] := by kernel_rfl
theorem pinQuiet (os : Os) : Stop.quiet Tryz.pinned.checked.prog os := by
  intro k hk
  rw [pinKnobs] at hk
  cases hk

theorem cf_wf : Rows.fnPeerRoadsRow.wfByText (OpenSpec.ofChange Rows.fnPeerRoadsSpec) = true := by kernel_rfl
theorem cf_maps : mapsRowed Tryz.pinned.checked.prog = true := by kernel_rfl
theorem cf_namedT : namedTie Tryz.pinned.checked.prog Rows.fnPeerRoadsRow.namedList (OpenSpec.ofChange Rows.fnPeerRoadsSpec).vars = true := by kernel_rfl
theorem cf_fnamed : Tryz.pinned.checked.prog.funcNamed Rows.fnPeerRoadsRow.func = some 3 := by kernel_rfl
theorem cf_envw : Tryz.pinned.checked.prog.envWorded = true := by kernel_rfl
theorem cf_inPl : Rows.fnPeerRoadsRow.inPlace = Tryz.pinned.checked.prog.inPlace 3 := by kernel_rfl
theorem cf_unf : Rows.fnPeerRoadsRow.unfollowed = Tryz.pinned.checked.prog.unfollowed 3 := by kernel_rfl
theorem cf_recu : Rows.fnPeerRoadsRow.recurses = Tryz.pinned.checked.prog.recurses 3 := by kernel_rfl
theorem cf_nam : Rows.fnPeerRoadsRow.named = Tryz.pinned.checked.prog.varsNamed 3 := by kernel_rfl
theorem cf_mapsIn : Rows.fnPeerRoadsRow.maps = (Tryz.f3.params.toList ++ (OpenSpec.ofChange Rows.fnPeerRoadsSpec).bare.plain.varTypes Tryz.pinned.checked.prog).any (Tryz.pinned.checked.prog.mapsRec ·) := by kernel_rfl
theorem cf_ifcIn : Rows.fnPeerRoadsRow.ifaces = (Tryz.f3.params.toList ++ (OpenSpec.ofChange Rows.fnPeerRoadsSpec).bare.plain.varTypes Tryz.pinned.checked.prog).any (Tryz.pinned.checked.prog.ifacesRec ·) := by kernel_rfl
theorem cf_mapsO : Rows.fnPeerRoadsRow.mapsOut = Tryz.pinned.checked.prog.mapsAmong Tryz.f3.resultTypes.toList := by kernel_rfl
theorem cf_loopsI : Rows.fnPeerRoadsRow.loops = (Tryz.f3.params.toList ++ (OpenSpec.ofChange Rows.fnPeerRoadsSpec).bare.plain.varTypes Tryz.pinned.checked.prog).any (Tryz.pinned.checked.prog.loopsFrom ·) := by kernel_rfl
theorem cf_wideK : Rows.fnPeerRoadsRow.wideKeys = (Tryz.f3.params.toList ++ (OpenSpec.ofChange Rows.fnPeerRoadsSpec).bare.plain.varTypes Tryz.pinned.checked.prog ++ Tryz.f3.resultTypes.toList).any (Tryz.pinned.checked.prog.wideKeysFrom ·) := by kernel_rfl
theorem cf_mainI : Tryz.pinned.checked.prog.mainIs = some ((Rows.fnPeerRoadsCard.stood.harness).1, (Rows.fnPeerRoadsCard.stood.harness).2.toList) := by kernel_rfl
theorem cf_looksI : Rows.fnPeerRoadsCard.stood.looks = Tryz.pinned.checked.prog.looks [] := by kernel_rfl
theorem cf_wants : (Tryz.f3.params.toList.all fun t => !Tryz.pinned.checked.prog.wantsStandIn t) = true := by kernel_rfl
theorem cf_goesI : Rows.fnPeerRoadsCard.goes = Rows.fnPeerRoadsRow.goesBy Tryz.pinned.checked.prog := by kernel_rfl
theorem cf_varsR : ((OpenSpec.ofChange Rows.fnPeerRoadsSpec).vars.all fun n => Tryz.pinned.checked.prog.varReadable n) = true := by kernel_rfl
theorem cf_m1 : Tryz.pinned.checked.prog.mayEnter = true := by kernel_rfl
theorem cf_m2 : (Tryz.f3.resultTypes.toList.all fun t => Tryz.pinned.checked.prog.readableRec t && decide (t < Tryz.pinned.checked.prog.types.size)) = true := by kernel_rfl
theorem cf_m3 : Tryz.pinned.checked.prog.stopsHeard = true := by kernel_rfl
theorem cf_m4 : Rows.fnPeerRoadsRow.ifacesOut = Tryz.f3.resultTypes.toList.any (Tryz.pinned.checked.prog.ifacesRec ·) := by kernel_rfl
theorem cf_m5 : Rows.fnPeerRoadsRow.loopsOut = Tryz.f3.resultTypes.toList.any (Tryz.pinned.checked.prog.loopsFrom ·) := by kernel_rfl
theorem cf_m6 : Rows.fnPeerRoadsRow.kinds = (if Rows.fnPeerRoadsRow.domain.isEmpty then [] else Tryz.f3.params.toList.map fun t => match Tryz.pinned.checked.prog.underlying t with | some (.int k) => some k | _ => none) := by kernel_rfl
theorem cf_m7 : Rows.fnPeerRoadsRow.pinned = Rows.fnPeerRoadsRow.pinnedBy := by kernel_rfl
theorem cf_m8 : Rows.fnPeerRoadsRow.plainKeys = Tryz.pinned.checked.prog.plainKeys := by kernel_rfl
theorem cf_m9 : Rows.fnPeerRoadsRow.lifted = Tryz.pinned.checked.prog.liftsFinal := by kernel_rfl
theorem cf_m10 : Tryz.pinned.checked.prog.make = some Rows.fnPeerRoadsRow.make := by kernel_rfl
theorem cf_veil : Rows.fnPeerRoadsRow.veiled = (Tryz.f3.params.toList ++ (OpenSpec.ofChange Rows.fnPeerRoadsSpec).bare.plain.varTypes Tryz.pinned.checked.prog ++ Tryz.f3.resultTypes.toList).any (Tryz.pinned.checked.prog.veiledRec ·) := by kernel_rfl
theorem cf_veil2 : Rows.fnPeerRoadsRow.veiledFits Tryz.pinned.checked.prog Tryz.f3.params.toList (Tryz.f3.params.toList ++ (OpenSpec.ofChange Rows.fnPeerRoadsSpec).bare.plain.varTypes Tryz.pinned.checked.prog ++ Tryz.f3.resultTypes.toList) = true := by kernel_rfl
theorem cf_readable : (Tryz.f3.params.toList.all fun t => Tryz.pinned.checked.prog.readableRec t) = true := by kernel_rfl
theorem cf_wrap : Tryz.f3.isWrapper Tryz.pinned.checked.prog Rows.fnPeerRoadsRow.wrapper Rows.fnPeerRoadsRow.mainSum := by
  unfold Func.isWrapper
  first
  | (rw [if_pos (by decide +kernel)]; kernel_rfl)
  | (rw [if_neg (by decide +kernel)]; exact ⟨rfl, rfl⟩)
theorem cf_inst : Tryz.f3.isInstance Tryz.pinned.checked.prog Rows.fnPeerRoadsRow.origin Rows.fnPeerRoadsRow.targs := of_decide_eq_true (by kernel_rfl)

set_option maxRecDepth 1000000 in
theorem fnPeerRoads_holds : Rows.FnPeerRoadsToldSaid :=
  Claim7.holds_of_told_tied_any_at .later 3 Tryz.f3 "fmt.Sprintf" [] [] _ _ _ _ _ cf_wf rfl rfl rfl pinLaidOut cf_maps rfl ⟨rfl, rfl, rfl, rfl, rfl, rfl, rfl⟩ rfl rfl cf_namedT cf_fnamed Tryz.func3 cf_readable
    cf_inst cf_wrap pinStops.symm rfl pinKnobs.symm cf_envw
    cf_inPl cf_unf cf_recu cf_nam cf_mapsIn cf_ifcIn cf_mapsO cf_loopsI cf_wideK rfl cf_varsR rfl rfl
    rfl rfl
    rfl cf_mainI cf_looksI cf_wants (by decide) cf_goesI fnPeerRoads_row_tie
    (OpenClaim.moreEntering_of cf_m1 cf_m2 cf_m3 cf_m4 cf_m5 cf_m6 cf_m7 cf_m8 cf_m9 cf_m10)
    ⟨_, WideRow.started_initial, pinQuiet _⟩
    (fun os started _ H enc _ => t_lifted os started H enc) ⟨cf_veil, cf_veil2⟩

#print axioms fnPeerRoads_holds
end Go.Proofs.YtilngifollpoeaaGreatFmt
