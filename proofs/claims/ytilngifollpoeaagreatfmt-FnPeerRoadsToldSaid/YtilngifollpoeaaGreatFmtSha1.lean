/- SHA-256: blockGeneric. -/
import Derived.Test.YtilngifollpoeaaGreatFmtSha0
import Derived.StillTailTactics
import Derived.BigQuiet
import Derived.Deep.RegionWith
import Derived.Deep.CutRange
import Derived.Deep.CutBlock
namespace Go.Proofs.YtilngifollpoeaaGreatFmt
open Go.RowKit

set_option maxHeartbeats 16000000 in
set_option maxRecDepth 100000 in
theorem block_any (g b o n c m : Nat) (h x kf : Nat → Int) (nx len : Int) (l : List UInt8) (w : World) (hg : Blk w g 212 (digC h x nx len)) (hr : RdAt w b o l) (hn : l.length = n) (hb : b < w.heap.size) (hm : n = 64 * m) (hnc : n ≤ c) (hc : c ≤ maxLen)
    (hk : ∀ i, i < 64 → w.cell? ⟨25, i, none⟩ = some (.int .u32 (kf i))) :
    Calls Tryz.prog 158 #[.pointer (some ⟨g, 0, none⟩), .slice (some ⟨b, o, none⟩) n c] w fun e w' => e = .returned (.tuple #[]) ∧ Blk w' g 212 (digC (toH (cmp kf l m (ofH h))) x nx len) ∧ But g w w' := by
  have hgl := hg.lt
  have c0 := (hg.cell 0).trans (digC_h h x nx len (by decide : 0 < 8))
  have c1 := (hg.cell 1).trans (digC_h h x nx len (by decide : 1 < 8))
  have c2 := (hg.cell 2).trans (digC_h h x nx len (by decide : 2 < 8))
  have c3 := (hg.cell 3).trans (digC_h h x nx len (by decide : 3 < 8))
  have c4 := (hg.cell 4).trans (digC_h h x nx len (by decide : 4 < 8))
  have c5 := (hg.cell 5).trans (digC_h h x nx len (by decide : 5 < 8))
  have c6 := (hg.cell 6).trans (digC_h h x nx len (by decide : 6 < 8))
  have c7 := (hg.cell 7).trans (digC_h h x nx len (by decide : 7 < 8))
  obtain ⟨D, hD⟩ : ∃ D, D = w.heap.size := ⟨_, rfl⟩
  have hgK : 25 < w.heap.size := by
    have h0 := hk 0 (by decide)
    rcases Nat.lt_or_ge 25 w.heap.size with h1 | h1
    · exact h1
    · simp [World.cell?, Array.getElem?_eq_none h1] at h0
  have HG := Lib.hid hg
  have HR := Lib.hid hr
  have HN := Lib.hid hn
  have HK := Lib.hid hk
  have HM := Lib.hid hm
  have HD := Lib.hid hD
  have R6 := Lib.hid fun (x : Int) (W : World) => rot_any x (-6) 26 W (by decide) (by decide)
  have R11 := Lib.hid fun (x : Int) (W : World) => rot_any x (-11) 21 W (by decide) (by decide)
  have R25 := Lib.hid fun (x : Int) (W : World) => rot_any x (-25) 7 W (by decide) (by decide)
  have R2 := Lib.hid fun (x : Int) (W : World) => rot_any x (-2) 30 W (by decide) (by decide)
  have R13 := Lib.hid fun (x : Int) (W : World) => rot_any x (-13) 19 W (by decide) (by decide)
  have R22 := Lib.hid fun (x : Int) (W : World) => rot_any x (-22) 10 W (by decide) (by decide)
  have R17 := Lib.hid fun (x : Int) (W : World) => rot_any x (-17) 15 W (by decide) (by decide)
  have R19 := Lib.hid fun (x : Int) (W : World) => rot_any x (-19) 13 W (by decide) (by decide)
  have R7 := Lib.hid fun (x : Int) (W : World) => rot_any x (-7) 25 W (by decide) (by decide)
  have R18 := Lib.hid fun (x : Int) (W : World) => rot_any x (-18) 14 W (by decide) (by decide)
  clear hg hr hn hk hm hD
  go_enter Tryz.func158, Tryz.ntmps158
  go_wp2_with fail
  go_quiet (fail)
  go_wp2_with fail
  clear c0 c1 c2 c3 c4 c5 c6 c7
  rw [← HD.out]
  go_loopw [1, 5, 6, 7, 8, 9, 10, 11, 12] (fun vp v5 v6 v7 v8 v9 v10 v11 v12 wr => ∃ (k n' c' : Nat) (ao : Option Addr) (s : St), vp = .slice ao n' c' ∧ Hid (s = cmp kf l k (ofH h)) ∧ v5 = .int .u32 s.a ∧ v6 = .int .u32 s.b ∧ v7 = .int .u32 s.c ∧ v8 = .int .u32 s.d ∧ v9 = .int .u32 s.e ∧ v10 = .int .u32 s.f ∧ v11 = .int .u32 s.g ∧ v12 = .int .u32 s.h ∧
      Hid (n' + 64 * k = n) ∧ Hid (0 < n' → ao = some ⟨b, o + 64 * k, none⟩) ∧ n' ≤ c' ∧ c' ≤ c ∧ Hid (∃ F, RowZ .u32 wr D 64 F) ∧ Hid (Below D w wr)) (fun vp _ _ _ _ _ _ _ _ _ => match vp with | .slice _ n _ => n | _ => 0)
  case atStart =>
    refine ⟨0, n, c, _, ofH h, rfl, Lib.hid rfl, rfl, rfl, rfl, rfl, rfl, rfl, rfl, rfl, Lib.hid (by omega), Lib.hid (fun _ => rfl), hnc, Nat.le_refl _, Lib.hid ⟨fun _ => 0, ?_⟩, Lib.hid (by rw [HD.out]; exact below_drewN ((Below.refl _ _).alloc (Nat.le_refl _) _) _)⟩
    intro i hi
    rw [HD.out]
    refine ⟨((Blk.new w _ _).cell i).trans ?_, (Blk.new w _ _).frozen i⟩
    rw [zero64, Array.getElem?_replicate, if_pos hi]
  case round =>
    obtain ⟨k, n', c', ao, s, rfl, hs, rfl, rfl, rfl, rfl, rfl, rfl, rfl, rfl, hn', hao, hnc', hcc, hrow, hbel⟩ := hrel
    by_cases h64 : 64 ≤ n'
    · obtain rfl : ao = some ⟨b, o + 64 * k, none⟩ := hao.out (by omega)
      have h64I : (64 : Int) ≤ n' := by omega
      obtain ⟨p, hp⟩ : ∃ p : Nat → Int, p = pf l k := ⟨_, rfl⟩
      have hpc : Hid (∀ j, j < 64 → w.cell? ⟨b, o + 64 * k + j, none⟩ = some (.int .u8 (p j))) := Lib.hid (fun j hj => by
        have h1 := HR.out.at_ (k := 64 * k + j) (by rw [HN.out]; have := hn'.out; omega)
        rw [Nat.add_assoc, h1, hp]
        unfold pf
        rw [List.getD_eq_getElem?_getD, List.getElem?_eq_getElem]
        rfl)
      obtain ⟨w0, hw0⟩ : ∃ w0, w0 = wr := ⟨_, rfl⟩
      subst hw0
      obtain ⟨s0, hs0⟩ : ∃ s0 : St, s0 = s := ⟨_, rfl⟩
      have HPF := Lib.hid hp
      clear hp
      go_wp2_with fail
      go_loopw [13, 14, 15, 16, 17, 18, 19, 20, 80] (fun va vb vc vd ve vf vg vh vi wq => ∃ i : Nat, i ≤ 64 ∧ vi = .int .i64 i ∧ va = .int .u32 (rnd kf p i s0).a ∧ vb = .int .u32 (rnd kf p i s0).b ∧ vc = .int .u32 (rnd kf p i s0).c ∧ vd = .int .u32 (rnd kf p i s0).d ∧ ve = .int .u32 (rnd kf p i s0).e ∧ vf = .int .u32 (rnd kf p i s0).f ∧ vg = .int .u32 (rnd kf p i s0).g ∧ vh = .int .u32 (rnd kf p i s0).h ∧
          Hid (∃ F, RowZ .u32 wq D 64 F ∧ ∀ j, j < i → F j = wsch p i j) ∧ Hid (Below D w wq)) (fun _ _ _ _ _ _ _ _ vi _ => 64 - (intOf vi).toNat)
      case atStart =>
        subst hs0
        obtain ⟨F, hF⟩ := hrow.out
        exact ⟨0, by omega, rfl, rfl, rfl, rfl, rfl, rfl, rfl, rfl, rfl, Lib.hid ⟨F, hF, fun j hj => absurd hj (Nat.not_lt_zero j)⟩, hbel⟩
      case round =>
        clear hrow hbel
        obtain ⟨i, hi, rfl, rfl, rfl, rfl, rfl, rfl, rfl, rfl, rfl, hrow, hbel⟩ := hrel
        by_cases hi64 : i < 64
        · obtain ⟨q, hq⟩ : ∃ q, q = rnd kf p i s0 := ⟨_, rfl⟩
          rw [← hq]
          obtain ⟨qa, qb, qc, qd, qe, qf, qg, qh⟩ := q
          obtain ⟨F, hF, hFw⟩ := hrow.out
          have hiI : (i : Int) < 64 := by omega
          have hDw : 25 < D := by rw [HD.out]; exact hgK
          have cK : wr.cell? ⟨25, i, none⟩ = some (.int .u32 (kf i)) := (hbel.out.cell (p := ⟨_, i, none⟩) hDw).trans (HK.out i hi64)
          have hbD : b < D := by rw [HD.out]; exact hb
          have cp : ∀ j, j < 64 → wr.cell? ⟨b, o + 64 * k + j, none⟩ = some (.int .u8 (p j)) := fun j hj => (hbel.out.cell (p := ⟨b, _, none⟩) hbD).trans (hpc.out j hj)
          have ci := hF.cell hi64
          have fi := hF.frozen hi64
          have HF := Lib.hid hF
          have HFW := Lib.hid hFw
          clear hrow hF hFw
          go_upto_if 84 with (fail)
          go_cut [22, 23, 24, 25, 26] from 83 to 156 (fun v22 v23 v24 v25 v26 wx => v22 = v22 ∧ v23 = v23 ∧ v24 = v24 ∧ v25 = v25 ∧ v26 = v26 ∧ Hid (∃ F, RowZ .u32 wx D 64 F ∧ ∀ j, j < i + 1 → F j = wsch p (i + 1) j) ∧ Hid (Below D w wx))
          case rest =>
            obtain ⟨_, _, _, _, _, hrow2, hbel2⟩ := hcut
            obtain ⟨F2, hF2, hFw2⟩ := hrow2.out
            have ck := hF2.cell hi64
            rw [hFw2 i (by omega)] at ck
            have cK2 : wc.cell? ⟨25, i, none⟩ = some (.int .u32 (kf i)) := (hbel2.out.cell (p := ⟨_, i, none⟩) hDw).trans (HK.out i hi64)
            obtain ⟨wi, hwi⟩ : ∃ y, y = wsch p (i + 1) i := ⟨_, rfl⟩
            obtain ⟨ki, hki⟩ : ∃ y, y = kf i := ⟨_, rfl⟩
            rw [← hwi] at ck
            rw [← hki] at cK2
            have HWI := Lib.hid hwi
            have HKI := Lib.hid hki
            have HQ := Lib.hid hq
            clear ci fi cK cp hbel hF2 hFw2 HF HFW hq hwi hki
            go_wp2_with fail
            go_quiet (first
              | (go_at_call 251; with_reducible exact Calls.quiet_of_same (R6.out qe _))
              | (go_at_call 251; with_reducible exact Calls.quiet_of_same (R11.out qe _))
              | (go_at_call 251; with_reducible exact Calls.quiet_of_same (R25.out qe _)))
            go_wp2_with fail
            refine (R2.out qa _).mono ?_
            rintro e w' ⟨rfl, hw'⟩
            subst w'
            go_wp2_with fail
            refine (R13.out qa _).mono ?_
            rintro e w' ⟨rfl, hw'⟩
            subst w'
            go_wp2_with fail
            refine (R22.out qa _).mono ?_
            rintro e w' ⟨rfl, hw'⟩
            subst w'
            go_wp2_with fail
            go_roundw
            case rel =>
              have hst : rnd kf p (i + 1) s0 = stp ki wi ⟨qa, qb, qc, qd, qe, qf, qg, qh⟩ := by rw [HKI.out, HWI.out, HQ.out]; rfl
              exact ⟨i + 1, by omega, by go_num, by rw [hst]; rfl, by rw [hst]; rfl, by rw [hst]; rfl, by rw [hst]; rfl, by rw [hst]; rfl, by rw [hst]; rfl, by rw [hst]; rfl, by rw [hst]; rfl, hrow2, below_drewN hbel2.out _⟩
            case measure => simp [intOf]; omega
          case first =>
          by_cases h16 : i < 16
          · as_aux_lemma =>
            have h16I : (i : Int) < 16 := by omega
            obtain ⟨u, hu⟩ : ∃ u, u = 4 * i := ⟨_, rfl⟩
            have e4 : (i : Int) * 4 = (u : Int) := by omega
            obtain ⟨u1, hu1⟩ : ∃ u1, u1 = u + 1 := ⟨_, rfl⟩
            obtain ⟨u2, hu2⟩ : ∃ u2, u2 = u + 2 := ⟨_, rfl⟩
            obtain ⟨u3, hu3⟩ : ∃ u3, u3 = u + 3 := ⟨_, rfl⟩
            have w1 : IntKind.i64.wrap ((u : Int) + 1) = (u1 : Int) := by rw [IntKind.wrap_i64]; omega
            have w2 : IntKind.i64.wrap ((u : Int) + 2) = (u2 : Int) := by rw [IntKind.wrap_i64]; omega
            have w3 : IntKind.i64.wrap ((u : Int) + 3) = (u3 : Int) := by rw [IntKind.wrap_i64]; omega
            have cp0 := cp u (by omega)
            have cp1 := cp u1 (by omega)
            have cp2 := cp u2 (by omega)
            have cp3 := cp u3 (by omega)
            obtain ⟨p0, hp0⟩ : ∃ y, y = p u := ⟨_, rfl⟩
            obtain ⟨p1, hp1⟩ : ∃ y, y = p u1 := ⟨_, rfl⟩
            obtain ⟨p2, hp2⟩ : ∃ y, y = p u2 := ⟨_, rfl⟩
            obtain ⟨p3, hp3⟩ : ∃ y, y = p u3 := ⟨_, rfl⟩
            rw [← hp0] at cp0
            rw [← hp1] at cp1
            rw [← hp2] at cp2
            rw [← hp3] at cp3
            have b0 : (u : Int) < n' := by omega
            have b1 : (u1 : Int) < n' := by omega
            have b2 : (u2 : Int) < n' := by omega
            have b3 : (u3 : Int) < n' := by omega
            have HU := Lib.hid (show u = 4 * i ∧ u1 = 4 * i + 1 ∧ u2 = 4 * i + 2 ∧ u3 = 4 * i + 3 from by omega)
            have HP := Lib.hid (show p0 = p u ∧ p1 = p u1 ∧ p2 = p u2 ∧ p3 = p u3 from ⟨hp0, hp1, hp2, hp3⟩)
            clear hu hu1 hu2 hu3
            clear cp hp0 hp1 hp2 hp3 hq
            go_wp2_with fail
            refine wp_region_still_tail 31 (by kernel_rfl) (by kernel_rfl) ?_
            simp only [List.take_succ_cons, List.take_zero, List.drop_succ_cons, List.drop_zero]
            repeat still_step
            refine wpStill_nil ?_
            change wpList _ _ _ _ _ wr.drew
            go_wp2_with fail
            go_meet
            refine ⟨trivial, trivial, trivial, trivial, trivial, Lib.hid ⟨updZ F i (be4 p0 p1 p2 p3), (HF.out.set_ hi64 _).drew, fun j hj => ?_⟩, Lib.hid (hbel.out.setCell (p := ⟨D, i, none⟩) (Nat.le_refl _) _).drew⟩
            show updZ F i _ j = if j = i then _ else _
            unfold updZ
            by_cases e : j = i
            · rw [if_pos e, if_pos e, if_pos h16]
              have h1 := HU.out
              have h2 := HP.out
              rw [h2.1, h2.2.1, h2.2.2.1, h2.2.2.2, h1.1, h1.2.1, h1.2.2.1, h1.2.2.2]
            · rw [if_neg e, if_neg e]
              exact HFW.out j (by omega)
          · as_aux_lemma =>
            have h16I : ((i : Int) < 16) = False := by simp; omega
            obtain ⟨i2, hi2⟩ : ∃ i2, i2 = i - 2 := ⟨_, rfl⟩
            obtain ⟨i7, hi7⟩ : ∃ i2, i2 = i - 7 := ⟨_, rfl⟩
            obtain ⟨i15, hi15⟩ : ∃ i2, i2 = i - 15 := ⟨_, rfl⟩
            obtain ⟨i16, hi16⟩ : ∃ i2, i2 = i - 16 := ⟨_, rfl⟩
            have e2 : (i : Int) - 2 = (i2 : Int) := by omega
            have e15 : (i : Int) - 15 = (i15 : Int) := by omega
            have w7 : IntKind.i64.wrap ((i : Int) - 7) = (i7 : Int) := by rw [IntKind.wrap_i64]; omega
            have w16 : IntKind.i64.wrap ((i : Int) - 16) = (i16 : Int) := by rw [IntKind.wrap_i64]; omega
            have k2 := HF.out.cell (i := i2) (by omega)
            have k7 := HF.out.cell (i := i7) (by omega)
            have k15 := HF.out.cell (i := i15) (by omega)
            have k16 := HF.out.cell (i := i16) (by omega)
            rw [HFW.out _ (by omega)] at k2 k7 k15 k16
            obtain ⟨y2, hy2⟩ : ∃ y, y = wsch p i i2 := ⟨_, rfl⟩
            obtain ⟨y7, hy7⟩ : ∃ y, y = wsch p i i7 := ⟨_, rfl⟩
            obtain ⟨y15, hy15⟩ : ∃ y, y = wsch p i i15 := ⟨_, rfl⟩
            obtain ⟨y16, hy16⟩ : ∃ y, y = wsch p i i16 := ⟨_, rfl⟩
            rw [← hy2] at k2
            rw [← hy7] at k7
            rw [← hy15] at k15
            rw [← hy16] at k16
            have l2 : (i2 : Int) < 64 := by omega
            have l7 : (i7 : Int) < 64 := by omega
            have l15 : (i15 : Int) < 64 := by omega
            have l16 : (i16 : Int) < 64 := by omega
            have HI := Lib.hid (show i2 = i - 2 ∧ i7 = i - 7 ∧ i15 = i - 15 ∧ i16 = i - 16 from ⟨hi2, hi7, hi15, hi16⟩)
            have HY := Lib.hid (show y2 = wsch p i i2 ∧ y7 = wsch p i i7 ∧ y15 = wsch p i i15 ∧ y16 = wsch p i i16 from ⟨hy2, hy7, hy15, hy16⟩)
            clear hi2 hi7 hi15 hi16 hy2 hy7 hy15 hy16 cp hq
            go_wp2_with fail
            refine (R17.out y2 _).mono ?_
            rintro e w' ⟨rfl, hw'⟩
            subst w'
            go_wp2_with fail
            refine (R19.out y2 _).mono ?_
            rintro e w' ⟨rfl, hw'⟩
            subst w'
            go_wp2_with fail
            refine (R7.out y15 _).mono ?_
            rintro e w' ⟨rfl, hw'⟩
            subst w'
            go_wp2_with fail
            refine (R18.out y15 _).mono ?_
            rintro e w' ⟨rfl, hw'⟩
            subst w'
            go_wp2_with fail
            refine wp_region_still_tail 15 (by kernel_rfl) (by kernel_rfl) ?_
            simp only [List.take_succ_cons, List.take_zero, List.drop_succ_cons, List.drop_zero]
            repeat still_step
            refine wpStill_nil ?_
            change wpList _ _ _ _ _ wr.drew
            go_wp2_with fail
            go_meet
            refine ⟨trivial, trivial, trivial, trivial, trivial, Lib.hid ⟨updZ F i (wexp y2 y15 y7 y16), (HF.out.set_ hi64 _).drew, fun j hj => ?_⟩, Lib.hid (hbel.out.setCell (p := ⟨D, i, none⟩) (Nat.le_refl _) _).drew⟩
            show updZ F i _ j = if j = i then _ else _
            unfold updZ
            by_cases e : j = i
            · rw [if_pos e, if_pos e, if_neg h16]
              have h1 := HI.out
              have h2 := HY.out
              rw [h2.1, h2.2.1, h2.2.2.1, h2.2.2.2, h1.1, h1.2.1, h1.2.2.1, h1.2.2.2]
            · rw [if_neg e, if_neg e]
              exact HFW.out j (by omega)
        · as_aux_lemma =>
          obtain rfl : i = 64 := by omega
          have hs2 := hs.out
          have HS2 := Lib.hid (show addS s (rnd kf p 64 s0) = cmp kf l (k + 1) (ofH h) from by
            rw [hs0, HPF.out, hs2]
            rfl)
          obtain ⟨q, hq⟩ : ∃ q, q = rnd kf p 64 s0 := ⟨_, rfl⟩
          rw [← hq]
          rw [← hq] at HS2
          obtain ⟨F, hF, _⟩ := hrow.out
          have HF : Hid (∃ F, RowZ .u32 wr D 64 F) := Lib.hid ⟨F, hF⟩
          have hn2 := hn'.out
          have hc64 : (64 : Int) ≤ c' := by omega
          have hc64N : 64 ≤ c' := by omega
          have hcm : c' ≤ 140737488355328 * 65536 := by unfold maxLen at hc; omega
          clear hs2 hq hrow hF hs0
          go_wp2
          go_roundw
          case rel =>
            refine ⟨k + 1, n' - 64, c' - 64, _, addS s q, rfl, HS2, rfl, rfl, rfl, rfl, rfl, rfl, rfl, rfl, Lib.hid (by have := hn'.out; omega), Lib.hid (fun h0 => ?_), by omega, by omega, HF, hbel⟩
            rw [if_neg (by omega)]
            rfl
          case measure => simp; omega
    · have hn0 : n' = 0 := by have h1 := hn'.out; have h2 := HM.out; omega
      subst hn0
      have hkm : k = m := by have h1 := hn'.out; have h2 := HM.out; omega
      subst hkm
      have hgD : g < D := by rw [HD.out]; exact hgl
      have hgb := HG.out.below hbel.out hgD
      have g0 := hgb.frozen 0
      have g1 := hgb.frozen 1
      have g2 := hgb.frozen 2
      have g3 := hgb.frozen 3
      have g4 := hgb.frozen 4
      have g5 := hgb.frozen 5
      have g6 := hgb.frozen 6
      have g7 := hgb.frozen 7
      have c0 := (hgb.cell 0).trans (digC_h h x nx len (by decide : 0 < 8))
      have c1 := (hgb.cell 1).trans (digC_h h x nx len (by decide : 1 < 8))
      have c2 := (hgb.cell 2).trans (digC_h h x nx len (by decide : 2 < 8))
      have c3 := (hgb.cell 3).trans (digC_h h x nx len (by decide : 3 < 8))
      have c4 := (hgb.cell 4).trans (digC_h h x nx len (by decide : 4 < 8))
      have c5 := (hgb.cell 5).trans (digC_h h x nx len (by decide : 5 < 8))
      have c6 := (hgb.cell 6).trans (digC_h h x nx len (by decide : 6 < 8))
      have c7 := (hgb.cell 7).trans (digC_h h x nx len (by decide : 7 < 8))
      have HGB := Lib.hid hgb
      clear hgb
      go_wp2_with fail
      go_region
      all_goals go_wp2
      all_goals go_end0
      have hbut := ((((((((But.ofBelow (g := g) (by rw [← HD.out]; exact hbel.out)).setCell 0 (.int .u32 s.a)).setCell 1 (.int .u32 s.b)).setCell 2 (.int .u32 s.c)).setCell 3 (.int .u32 s.d)).setCell 4 (.int .u32 s.e)).setCell 5 (.int .u32 s.f)).setCell 6 (.int .u32 s.g)).setCell 7 (.int .u32 s.h)
      refine ⟨rfl, ?_, hbut.drew⟩
      have h1 := (((((((HGB.out.set_ 0 (.int .u32 s.a)).set_ 1 (.int .u32 s.b)).set_ 2 (.int .u32 s.c)).set_ 3 (.int .u32 s.d)).set_ 4 (.int .u32 s.e)).set_ 5 (.int .u32 s.f)).set_ 6 (.int .u32 s.g)).set_ 7 (.int .u32 s.h)
      rw [digC_set _ _ _ _ (by decide), digC_set _ _ _ _ (by decide), digC_set _ _ _ _ (by decide), digC_set _ _ _ _ (by decide), digC_set _ _ _ _ (by decide), digC_set _ _ _ _ (by decide), digC_set _ _ _ _ (by decide), digC_set _ _ _ _ (by decide)] at h1
      rw [← hs.out, digC_ext (h := toH s) (h' := updZ (updZ (updZ (updZ (updZ (updZ (updZ (updZ h 0 s.a) 1 s.b) 2 s.c) 3 s.d) 4 s.e) 5 s.f) 6 s.g) 7 s.h) (x' := x) (fun i hi => ?_) (fun _ _ => rfl)]
      · exact h1.drew
      · match i, hi with
        | 0, _ => rfl
        | 1, _ => rfl
        | 2, _ => rfl
        | 3, _ => rfl
        | 4, _ => rfl
        | 5, _ => rfl
        | 6, _ => rfl
        | 7, _ => rfl
        | i + 8, h => omega
end Go.Proofs.YtilngifollpoeaaGreatFmt
