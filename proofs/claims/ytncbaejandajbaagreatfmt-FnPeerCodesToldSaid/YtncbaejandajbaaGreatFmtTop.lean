/- The row of laws.FnPeerCodes: for every number and all bytes (nil too) the call returns true, and what it was given reads as before; given what the listed variables hold. -/
import Derived.Test.YtncbaejandajbaaGreatFmtFc
import Derived.Test.YtncbaejandajbaaGreatFmtCards
import Derived.ProofKit
import Derived.OpenShut
import Derived.LaidMore
import Derived.Lay
import Derived.Stop.Joined
import Derived.Stop.JoinedTold
import Derived.Lib.SlBytesRowKit
namespace Go.Proofs.YtncbaejandajbaaGreatFmt
open Go.ChangeShapes Go.WideShapes Go.ChangeAt Go.RowKit Go.Extern.Stop Go.Stop Go.Extern

theorem own : ownKnob Tryz.prog.godebug = none := by kernel_rfl
theorem laidOut : laidOutB Tryz.prog = true := by kernel_rfl
theorem cellsByte : Tryz.prog.cellsOf 5 = 1 := by kernel_rfl

/-- Bytes as they were handed in. -/
def ofInts (xs : List Int) : List UInt8 := xs.map fun x => x.toNat.toUInt8

theorem ofInts_src {w : World} {ao : Option Addr} {n c : Nat} {xs : List Int} (hx : xs.length = n) (hb : ∀ x ∈ xs, 0 ≤ x ∧ x < 256) (h : Lib.BytesIn w ao n xs) : SrcB w (.slice ao n c) (ofInts xs) := by
  have hl : (ofInts xs).length = n := by unfold ofInts; rw [List.length_map, hx]
  refine ⟨ao, c, by rw [hl], fun _ => ?_, fun hne => ?_⟩
  · cases ao with
    | none => exact .inl rfl
    | some a => exact .inr ⟨a, rfl⟩
  · have hn : 0 < n := by
      rw [← hl]
      exact List.length_pos_iff.2 hne
    obtain ⟨b, o, rfl, hc⟩ := h hn
    have hat : RdAt w b o (ofInts xs) := fun j x hj => by
      unfold ofInts at hj
      rw [List.getElem?_map] at hj
      obtain ⟨y, hy, rfl⟩ := Option.map_eq_some_iff.1 hj
      have hjn : j < n := by rw [← hx]; exact (List.getElem?_eq_some_iff.1 hy).1
      have hyb := hb y (List.mem_of_getElem? hy)
      rw [hc j hjn, List.getD_eq_getElem?_getD, hy]
      have e : ((y.toNat.toUInt8.toNat : Nat) : Int) = y := by
        simp [Nat.toUInt8]
        omega
      rw [e]
      rfl
    refine ⟨⟨b, o, none⟩, rfl, ?_, hat.adds⟩
    have h0 := hc 0 hn
    rcases Nat.lt_or_ge b w.heap.size with hlt | hge
    · exact hlt
    · simp [World.cell?, Array.getElem?_eq_none hge] at h0

noncomputable def startAt (os : Os) : World := World.laidAll Tryz.prog os Rows.fnPeerCodesRow.laid

set_option maxRecDepth 1000000 in
theorem start_row (os : Os) {H : Type} (enc : TypeId × Value → H) :
    (OpenSpec.ofChange Rows.fnPeerCodesSpec).preRow enc Tryz.prog Tryz.f3 Rows.fnPeerCodesRow.domain Rows.fnPeerCodesRow.apart Rows.fnPeerCodesRow.laid ((startAt os).forCall (fun _ _ => 0) ⟨#[], #[.int .u32 0, .slice none 0 0], []⟩).memory #[.int .u32 0, .slice none 0 0] := by
  have hw : (DataW.whole enc Tryz.prog ((startAt os).forCall (fun _ _ => 0) ⟨#[], #[.int .u32 0, .slice none 0 0], []⟩).memory Tryz.f3.params.toList (OpenSpec.ofChange Rows.fnPeerCodesSpec).vars Rows.fnPeerCodesRow.apart #[Value.int .u32 0, .slice none 0 0].toList 8).isSome = true := by kernel_rfl
  obtain ⟨x, hx⟩ := Option.isSome_iff_exists.1 hw
  exact OpenSpec.preRow_of_cond 8 hx rfl (fun k hk => by cases hk) (by kernel_rfl) (by rw [MakeChecks.laidMetH_plain _ _ _ (by kernel_rfl)]; exact laidMet_laidAll _ (by kernel_rfl) (by kernel_rfl))

set_option maxRecDepth 1000000 in
theorem start_fits (os : Os) (H : Type) (enc : TypeId × Value → H) (F : Stop.Interp) :
    ∃ (w : World) (tape : Tape) (i : Input), w.os = os ∧ (w.forCall tape i).Shaped Tryz.checked.prog ∧ i.vars = [] ∧ Input.okWide Tryz.checked.prog (w.forCall tape i) .any w.heap.size 3 i ∧
      (OpenSpec.ofChange Rows.fnPeerCodesSpec).preRow enc Tryz.checked.prog Tryz.f3 Rows.fnPeerCodesRow.domain Rows.fnPeerCodesRow.apart Rows.fnPeerCodesRow.laid (w.forCall tape i).memory i.args ∧ ({} : Assume).holds Tryz.checked.prog (lone (Frame.enter Tryz.checked.prog 3 i.args .normal) [] (w.forCall tape i)) ∧ F.answers tape := by
  have hs : ((startAt os).forCall (fun _ _ => 0) ⟨#[], #[.int .u32 0, .slice none 0 0], []⟩).Shaped Tryz.checked.prog := World.shaped_of_ZipB (by kernel_rfl) (by kernel_rfl)
  have hok : Input.okWideB Tryz.checked.prog ((startAt os).forCall (fun _ _ => 0) ⟨#[], #[.int .u32 0, .slice none 0 0], []⟩) 3 ⟨#[], #[.int .u32 0, .slice none 0 0], []⟩ = true := by kernel_rfl
  exact ⟨startAt os, F.over fun _ _ => 0, ⟨#[], #[.int .u32 0, .slice none 0 0], []⟩, World.laidAll_os _ _ _, hs, (Input.okWide_of_okWideB (base := 0) hok).1, (Input.okWide_of_okWideB hok).2, start_row os enc, by
    simp only [Assume.holds]
    exact ⟨by simp, by simp, fun _ => F.over_modest Modest.zero, by simp, by simp⟩, F.over_answers _⟩

set_option maxHeartbeats 1000000 in
set_option maxRecDepth 100000 in
theorem t_lifted (os : Os) (started : os.Started) (H : Type) (enc : TypeId × Value → H) :
    ReturnsInTold none {} Tryz.checked os 3 .any Input.okWide ((OpenSpec.ofChange Rows.fnPeerCodesSpec).preRow enc Tryz.prog Tryz.f3 Rows.fnPeerCodesRow.domain Rows.fnPeerCodesRow.apart Rows.fnPeerCodesRow.laid)
      (fun F => ((OpenSpec.ofChange Rows.fnPeerCodesSpec).at F).post enc Tryz.prog Tryz.f3 Rows.fnPeerCodesRow.apart Rows.fnPeerCodesRow.fresh Rows.fnPeerCodesRow.handsOn Rows.fnPeerCodesRow.again) (aloneAtReturn Tryz.prog) nothingAlways := by
  refine returnsInTold_of_row (C := Tryz.checked) (s := OpenSpec.ofChange Rows.fnPeerCodesSpec) (by kernel_rfl) own started (by kernel_rfl) Tryz.func3 (start_fits os H enc) ?_
  intro F W base args ds gs before _ _ hval0 hW _ _ _ _ _
  have hval : ∀ (j : Nat) t v, Tryz.f3.params[j]? = some t → args[j]? = some v → Value.okWide Tryz.prog W .any base t v := hval0
  have hW' := hW
  obtain ⟨p, q, hA0, hV0, rfl, _, _⟩ := hW
  have hA : DataW.TrodAll enc Tryz.prog W 0 (fun _ => true) true Tryz.f3.params.toList args.toList ds p := hA0
  rw [Tryz.params3] at hA hval
  obtain ⟨v0, v1, d0, d1, p0, p1, rfl, rfl, rfl, h0, h1⟩ := trodAll_two hA
  obtain ⟨rfl, rfl⟩ := trodVars_none hV0
  have hx0 := open_int Tryz.underlying22 (hval 0 22 v0 rfl rfl) h0
  obtain ⟨x, rfl, rfl, rfl, wx⟩ := hx0
  obtain ⟨a1, len1, cap1, rfl⟩ := okWide_slice Tryz.underlying23 (hval 1 23 v1 rfl rfl)
  clear hA0 hV0 hval0
  simp only [List.append_nil] at hW'
  have hlt : ∀ y ∈ [] ++ p1, y.block < W.heap.size := fun y hy => by simpa using hW'.lt y hy
  obtain ⟨xs, hx, _, hB, _, hby, _⟩ := opened_bytes Tryz.underlying23 Tryz.underlying5 cellsByte h1
  have hr : 0 ≤ x ∧ x ≤ 4294967295 := by
    have := wx
    simp [Lit.wf, IntKind.min, IntKind.max, IntKind.signed, IntKind.bits] at this
    omega
  obtain ⟨code, rfl⟩ : ∃ code : Nat, x = code := ⟨x.toNat, by omega⟩
  refine (FnPeerCodes_any code len1 cap1 a1 (ofInts xs) W (by omega) (by unfold ofInts; rw [List.length_map, hx]) (ofInts_src hx hby hB)).mono ?_
  rintro e W' ⟨rfl, hb⟩
  have harg1 := Below.trod laidOut (by kernel_rfl) (of_decide_eq_true (by kernel_rfl)) h1 hb (fun y hy => hlt y (List.mem_append.2 (.inr hy)))
  refine ⟨_, rfl, _, _, _, [], [] ++ p1, [], hW', ?_, ?_, ?_, hb.frame _, fun h => by cases h⟩
  · exact trodAll_mk1 (shut_bool Tryz.underlying4 _)
  · exact trodAll_mk2 (shut_int Tryz.underlying22 wx) harg1
  · rfl
end Go.Proofs.YtncbaejandajbaaGreatFmt
