/- The row of laws.FnPeerRoads: for every number and all bytes (nil too) the call returns true, and what it was given reads as before; given what the listed variables hold. -/
import Derived.Test.YtilngifollpoeaaGreatFmtFr
import Derived.Test.YtilngifollpoeaaGreatFmtSha8
import Derived.Test.YtilngifollpoeaaGreatFmtKat
import Derived.Test.YtilngifollpoeaaGreatFmtCards
import Derived.ProofKit
import Derived.OpenShut
import Derived.LaidMore
import Derived.Lay
import Derived.Stop.Joined
import Derived.Stop.JoinedTold
import Derived.Lib.SlBytesRowKit
namespace Go.Proofs.YtilngifollpoeaaGreatFmt
open Go.ChangeShapes Go.WideShapes Go.ChangeAt Go.RowKit Go.Extern.Stop Go.Stop Go.Extern

theorem own : ownKnob Tryz.prog.godebug = none := by kernel_rfl
theorem laidOut : laidOutB Tryz.prog = true := by kernel_rfl
theorem cellsByte : Tryz.prog.cellsOf 5 = 1 := by kernel_rfl

/-- Bytes as they were handed in. -/
def ofInts (xs : List Int) : List UInt8 := xs.map fun x => x.toNat.toUInt8

theorem ofInts_rd {w : World} {ao : Option Addr} {n c : Nat} {xs : List Int} (hx : xs.length = n) (hb : ∀ x ∈ xs, 0 ≤ x ∧ x < 256) (h : Lib.BytesIn w ao n xs) (hc : n ≤ c) (hm : c ≤ maxLen) (hn : 0 < n) : Rd w w.heap.size (.slice ao n c) (ofInts xs) := by
  have hl : (ofInts xs).length = n := by unfold ofInts; rw [List.length_map, hx]
  obtain ⟨b, o, rfl, hcell⟩ := h hn
  have hat : RdAt w b o (ofInts xs) := fun j x hj => by
    unfold ofInts at hj
    rw [List.getElem?_map] at hj
    obtain ⟨y, hy, rfl⟩ := Option.map_eq_some_iff.1 hj
    have hjn : j < n := by rw [← hx]; exact (List.getElem?_eq_some_iff.1 hy).1
    have hyb := hb y (List.mem_of_getElem? hy)
    rw [hcell j hjn, List.getD_eq_getElem?_getD, hy]
    have e : ((y.toNat.toUInt8.toNat : Nat) : Int) = y := by
      simp [Nat.toUInt8]
      omega
    rw [e]
    rfl
  refine ⟨b, o, c, by rw [hl], ?_, by omega, hm, hat⟩
  have h0 := hcell 0 hn
  rcases Nat.lt_or_ge b w.heap.size with hlt | hge
  · exact hlt
  · simp [World.cell?, Array.getElem?_eq_none hge] at h0

theorem trod_cap {H : Type} {enc : TypeId × Value → H} {P : Program} {t e : TypeId} (ht : P.underlying t = some (.slice e)) (he : P.underlying e = some (.int .u8)) (hc : P.cellsOf e = 1) {W : World} {a0 : Option Addr} {len cap : Nat} {d0 : DataW H} {p : List MemPlace}
    (h0 : DataW.Trod enc P W 0 (fun _ => true) true t (.slice a0 len cap) d0 p) : cap ≤ maxLen := by
  obtain ⟨fuel, hf⟩ := h0
  rcases open_ints ht he hc hf with ⟨hcs, _⟩ | ⟨a, len', cap', zs, hcs, _, _, hm, _⟩
  · simp [Value.cells] at hcs
    obtain ⟨_, _, rfl⟩ := hcs
    exact Nat.zero_le _
  · simp [Value.cells] at hcs
    obtain ⟨_, _, rfl⟩ := hcs
    exact hm

noncomputable def startAt (os : Os) : World := World.laidAll Tryz.prog os Rows.fnPeerRoadsRow.laid

set_option maxRecDepth 1000000 in
theorem start_row (os : Os) (tape : Tape) {H : Type} (enc : TypeId × Value → H) :
    (OpenSpec.ofChange Rows.fnPeerRoadsSpec).preRow enc Tryz.prog Tryz.f3 Rows.fnPeerRoadsRow.domain Rows.fnPeerRoadsRow.apart Rows.fnPeerRoadsRow.laid ((startAt os).forCall tape ⟨#[], #[.int .u8 0, .slice none 0 0, .slice none 0 0], []⟩).memory #[.int .u8 0, .slice none 0 0, .slice none 0 0] := by
  have hw : (DataW.whole enc Tryz.prog ((startAt os).forCall tape ⟨#[], #[.int .u8 0, .slice none 0 0, .slice none 0 0], []⟩).memory Tryz.f3.params.toList (OpenSpec.ofChange Rows.fnPeerRoadsSpec).vars Rows.fnPeerRoadsRow.apart #[Value.int .u8 0, .slice none 0 0, .slice none 0 0].toList 8).isSome = true := by kernel_rfl
  obtain ⟨x, hx⟩ := Option.isSome_iff_exists.1 hw
  exact OpenSpec.preRow_of_cond 8 hx rfl (fun k hk => by cases hk) (by kernel_rfl) (by rw [MakeChecks.laidMetH_plain _ _ _ (by kernel_rfl)]; exact laidMet_laidAll _ (by kernel_rfl) (by kernel_rfl))

set_option maxHeartbeats 4000000 in
set_option maxRecDepth 1000000 in
theorem start_fits (os : Os) (H : Type) (enc : TypeId × Value → H) (F : Stop.Interp) :
    ∃ (w : World) (tape : Tape) (i : Input), w.os = os ∧ (w.forCall tape i).Shaped Tryz.checked.prog ∧ i.vars = [] ∧ Input.okWide Tryz.checked.prog (w.forCall tape i) .any w.heap.size 3 i ∧
      (OpenSpec.ofChange Rows.fnPeerRoadsSpec).preRow enc Tryz.checked.prog Tryz.f3 Rows.fnPeerRoadsRow.domain Rows.fnPeerRoadsRow.apart Rows.fnPeerRoadsRow.laid (w.forCall tape i).memory i.args ∧ ({} : Assume).holds Tryz.checked.prog (lone (Frame.enter Tryz.checked.prog 3 i.args .normal) [] (w.forCall tape i)) ∧ F.answers tape := by
  have hs : ∀ tape, ((startAt os).forCall tape ⟨#[], #[.int .u8 0, .slice none 0 0, .slice none 0 0], []⟩).Shaped Tryz.checked.prog := fun tape => World.shaped_of_ZipB (by kernel_rfl) (by kernel_rfl)
  have hok : ∀ tape, Input.okWideB Tryz.checked.prog ((startAt os).forCall tape ⟨#[], #[.int .u8 0, .slice none 0 0, .slice none 0 0], []⟩) 3 ⟨#[], #[.int .u8 0, .slice none 0 0, .slice none 0 0], []⟩ = true := fun tape => by kernel_rfl
  obtain ⟨tp, hm, ha⟩ : ∃ tp : Tape, Modest tp ∧ F.answers tp := ⟨F.over fun _ _ => 0, F.over_modest Modest.zero, F.over_answers _⟩
  exact ⟨startAt os, tp, ⟨#[], #[.int .u8 0, .slice none 0 0, .slice none 0 0], []⟩, World.laidAll_os _ _ _, hs tp, (Input.okWide_of_okWideB (base := 0) (hok tp)).1, (Input.okWide_of_okWideB (hok tp)).2, start_row os tp enc, by
    simp only [Assume.holds]
    exact ⟨by simp, by simp, fun _ => hm, by simp, by simp⟩, ha⟩

set_option maxHeartbeats 1000000 in
set_option maxRecDepth 100000 in
theorem t_calls {H : Type} (enc : TypeId × Value → H) (F : Stop.Interp) (W : World) (base : Nat) (args : Array Value) (ds gs : List (DataW H)) (before : List MemPlace)
    (hval0 : ∀ (j : Nat) t v, Tryz.f3.params[j]? = some t → args[j]? = some v → Value.okWide Tryz.prog W .any base t v)
    (hW : DataW.Whole enc Tryz.prog Tryz.f3.params.toList (OpenSpec.ofChange Rows.fnPeerRoadsSpec).vars Rows.fnPeerRoadsRow.apart W args.toList ds gs before)
    (hsh : W.ShapedOpen Tryz.prog) :
    Calls Tryz.prog 3 args W fun e W' => ∃ v, e = .returned v ∧ ((OpenSpec.ofChange Rows.fnPeerRoadsSpec).at F).post enc Tryz.prog Tryz.f3 Rows.fnPeerRoadsRow.apart Rows.fnPeerRoadsRow.fresh Rows.fnPeerRoadsRow.handsOn Rows.fnPeerRoadsRow.again W args v W' := by
  have hval : ∀ (j : Nat) t v, Tryz.f3.params[j]? = some t → args[j]? = some v → Value.okWide Tryz.prog W .any base t v := hval0
  have hW' := hW
  obtain ⟨p, q, hA0, hV0, rfl, _, _⟩ := hW
  have hA : DataW.TrodAll enc Tryz.prog W 0 (fun _ => true) true Tryz.f3.params.toList args.toList ds p := hA0
  rw [Tryz.params3] at hA hval
  obtain ⟨v0, v1, v2, d0, d1, d2, p0, p1, p2, rfl, rfl, rfl, h0, h1, h2⟩ := trodAll_three hA
  obtain ⟨rfl, rfl⟩ := trodVars_none hV0
  have hx0 := open_int Tryz.underlying5 (hval 0 5 v0 rfl rfl) h0
  obtain ⟨x, rfl, rfl, rfl, wx⟩ := hx0
  obtain ⟨a1, len1, cap1, rfl⟩ := okWide_slice Tryz.underlying22 (hval 1 22 v1 rfl rfl)
  obtain ⟨a2, len2, cap2, rfl⟩ := okWide_slice Tryz.underlying22 (hval 2 22 v2 rfl rfl)
  clear hA0 hV0 hval0
  simp only [List.append_nil] at hW'
  have hlt : ∀ y ∈ [] ++ p1 ++ p2, y.block < W.heap.size := fun y hy => by simpa using hW'.lt y hy
  obtain ⟨xs, hx, hc1, hB, _, hby, _⟩ := opened_bytes Tryz.underlying22 Tryz.underlying5 cellsByte h1
  obtain ⟨ys, hy, hc2, hB2, _, hby2, _⟩ := opened_bytes Tryz.underlying22 Tryz.underlying5 cellsByte h2
  have hm1 := trod_cap Tryz.underlying22 Tryz.underlying5 cellsByte h1
  have hm2 := trod_cap Tryz.underlying22 Tryz.underlying5 cellsByte h2
  have hr : 0 ≤ x ∧ x ≤ 255 := by
    have := wx
    simp [Lit.wf, IntKind.min, IntKind.max, IntKind.signed, IntKind.bits] at this
    omega
  obtain ⟨kind, rfl⟩ : ∃ kind : Nat, x = kind := ⟨x.toNat, by omega⟩
  obtain ⟨kf, hK⟩ := kat_of_shape hsh
  refine (FnPeerRoads_any kind len1 cap1 len2 cap2 a1 a2 kf (ofInts xs) (ofInts ys) W (by omega) (by unfold ofInts; rw [List.length_map, hx]) (by unfold ofInts; rw [List.length_map, hy])
    (ofInts_rd hx hby hB hc1 hm1) (ofInts_rd hy hby2 hB2 hc2 hm2) hK (fun m hm hm4 => sha_says kf m hm hm4)).mono ?_
  rintro e W' ⟨rfl, hb⟩
  have harg1 := Below.trod laidOut (by kernel_rfl) (of_decide_eq_true (by kernel_rfl)) h1 hb (fun y hy => hlt y (List.mem_append.2 (.inl (List.mem_append.2 (.inr hy)))))
  have harg2 := Below.trod laidOut (by kernel_rfl) (of_decide_eq_true (by kernel_rfl)) h2 hb (fun y hy => hlt y (List.mem_append.2 (.inr hy)))
  refine ⟨_, rfl, _, _, _, [], [] ++ (p1 ++ p2), [], hW', ?_, ?_, ?_, hb.frame _, fun h => by cases h⟩
  · exact trodAll_mk1 (shut_bool Tryz.underlying4 _)
  · exact trodAll_mk3 (shut_int Tryz.underlying5 wx) harg1 harg2
  · rfl

set_option maxHeartbeats 1000000 in
set_option maxRecDepth 100000 in
theorem t_lifted (os : Os) (started : os.Started) (H : Type) (enc : TypeId × Value → H) :
    ReturnsInTold none {} Tryz.checked os 3 .any Input.okWide ((OpenSpec.ofChange Rows.fnPeerRoadsSpec).preRow enc Tryz.prog Tryz.f3 Rows.fnPeerRoadsRow.domain Rows.fnPeerRoadsRow.apart Rows.fnPeerRoadsRow.laid)
      (fun F => ((OpenSpec.ofChange Rows.fnPeerRoadsSpec).at F).post enc Tryz.prog Tryz.f3 Rows.fnPeerRoadsRow.apart Rows.fnPeerRoadsRow.fresh Rows.fnPeerRoadsRow.handsOn Rows.fnPeerRoadsRow.again) (aloneAtReturn Tryz.prog) nothingAlways := by
  intro F
  refine returnsInOpen_of_calls_wide (stops := some F.told) (C := Tryz.checked) (by kernel_rfl) own started (by kernel_rfl) (start_fits os H enc F.told) ?_
  intro w tape i _ hsh _ hok hpre _ _
  obtain ⟨_, _, _, fn', hfn', _, _, _, _, hval⟩ := hok
  have e : fn' = Tryz.f3 := Option.some.inj (hfn'.symm.trans Tryz.func3)
  subst e
  obtain ⟨⟨hp, _⟩, _⟩ := hpre
  obtain ⟨ds, gs, before, hw, _, _⟩ := OpenSpec.pre_parts hp
  have hw' := DataW.Whole.of_heap (w' := w.forCall tape i) (by rfl) hw
  refine (t_calls enc F.told (w.forCall tape i) w.heap.size i.args ds gs before hval hw' hsh).mono fun e W' ⟨v, he, hq⟩ => ?_
  subst he
  exact ChangeSpec.post_blind hq
end Go.Proofs.YtilngifollpoeaaGreatFmt
