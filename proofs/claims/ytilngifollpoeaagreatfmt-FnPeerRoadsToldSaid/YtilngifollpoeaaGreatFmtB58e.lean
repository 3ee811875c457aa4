/- base58: FastBase58EncodingAlphabet with the letters of BTC. -/
import Derived.Test.YtilngifollpoeaaGreatFmtB58a
import Derived.Test.YtilngifollpoeaaGreatFmtBase
import Derived.Test.YtilngifollpoeaaGreatFmtB32x
import Derived.Deep.CutRange
import Derived.StillTailTactics
import Derived.Deep.CutBlock
namespace Go.Proofs.YtilngifollpoeaaGreatFmt
open Go.RowKit

theorem Gd_start (z S N M i : Nat) (hi : i < z + S) : Gd z S N N 0 i = Gd z S N M 0 i := by
  unfold Gd mxF
  by_cases h : i < z
  · rw [if_pos h, if_pos h]
  · rw [if_neg h, if_neg h, if_pos (by omega), if_pos (by omega)]

set_option maxHeartbeats 8000000 in
set_option maxRecDepth 100000 in
theorem Fast58_any (l : List UInt8) (K g b o n c : Nat) (w : World) (hK : Can 58 K (bnum l))
    (hg : Blk w g 192 (alphC (decT btcA 58) (fun j => (btcA.getD j 0).toNat))) (hr : RdAt w b o l) (hn : l.length = n) (hb : b < w.heap.size) (hnc : n ≤ c) (hn1 : n ≤ 1099511627776) :
    Calls Tryz.prog 111 #[.slice (some ⟨b, o, none⟩) n c, .pointer (some ⟨g, 0, none⟩)] w fun e w' => e = .returned (.string (str (List.replicate (lz l) 49 ++ (fw 58 K (bnum l)).map fun d => btcA.getD d 0))) ∧ Below w.heap.size w w' := by
  have HG := Lib.hid hg
  have HR := Lib.hid hr
  have HN := Lib.hid hn
  have HK := Lib.hid hK
  have hgw := hg.lt
  have c49 : w.cell? ⟨g, 128, none⟩ = some (.int .u8 49) := (hg.cell 128).trans (alphC_enc _ _ (j := 0) (by decide))
  clear hg hr hn hK
  go_enter Tryz.func111, Tryz.ntmps111
  obtain ⟨z, hz⟩ : ∃ z, z = lz l := ⟨_, rfl⟩
  have HZ := Lib.hid hz
  clear hz
  go_upto_block 0 with (fail)
  go_cut [9] from 23 to 34 (fun v wx => v = .int .i64 (z : Int) ∧ wx = w)
  case first =>
    go_wp2_with fail
    go_loop [9] (fun v => ∃ k : Nat, k ≤ z ∧ v = .int .i64 k) (fun v => n - (intOf v).toNat)
    case atStart => exact ⟨0, by omega, rfl⟩
    case round =>
      obtain ⟨k, hk, rfl⟩ := hrel
      have hzn : z ≤ n := by rw [HZ.out, ← HN.out]; exact lz_le l
      by_cases hkz : k < z
      · have hx : l[k]? = some 0 := lz_zero l k (by rw [← HZ.out]; exact hkz)
        have c0 : w.cell? ⟨b, o + k, none⟩ = some (.int .u8 0) := HR.out k 0 hx
        have hkn : (k : Int) < n := by omega
        go_wp2
        go_round
        case rel => exact ⟨k + 1, by omega, by go_num⟩
        case measure => simp [intOf]; omega
      · obtain rfl : k = z := by omega
        by_cases hkn : k < n
        · obtain ⟨x, hx⟩ : ∃ x, l[k]? = some x := ⟨_, List.getElem?_eq_getElem (by rw [HN.out]; exact hkn)⟩
          have hx0 : x ≠ 0 := lz_stop l x (by rw [← HZ.out]; exact hx)
          have c0 : w.cell? ⟨b, o + k, none⟩ = some (.int .u8 (x.toNat : Int)) := HR.out k x hx
          have hxI : ((x.toNat : Int) == 0) = false := by
            rw [beq_eq_false_iff_ne]
            intro e
            exact hx0 (UInt8.toNat_inj.1 (by simpa using e))
          have hknI : (k : Int) < n := by omega
          clear hx hx0
          go_wp2
          go_meet
          exact ⟨rfl, rfl⟩
        · have hknI : ((k : Int) < n) = False := by simp; omega
          go_wp2
          go_meet
          exact ⟨rfl, rfl⟩
  case rest =>
  obtain ⟨rfl, hw1⟩ := hcut
  have hw2 := hw1.symm
  subst hw2
  have hzn : z ≤ n := by rw [HZ.out, ← HN.out]; exact lz_le l
  obtain ⟨m, hm⟩ : ∃ m, m = n - z := ⟨_, rfl⟩
  obtain ⟨S, hS⟩ : ∃ S, S = m * 138 / 100 + 1 := ⟨_, rfl⟩
  obtain ⟨T, hT⟩ : ∃ T, T = S * 2 + z := ⟨_, rfl⟩
  have e1 : (n : Int) - (z : Int) = (m : Int) := by omega
  have e2 : (m : Int) * 138 / 100 + 1 = (S : Int) := by omega
  have e3 : (S : Int) * 2 + (z : Int) = (T : Int) := by omega
  obtain ⟨Z, hZ⟩ : ∃ Z, Z = S + z := ⟨_, rfl⟩
  have e4 : (S : Int) + (z : Int) = (Z : Int) := by omega
  have hm1 : m ≤ 1099511627776 := by omega
  have hS1 : S ≤ 2199023255552 := by omega
  have hT1 : T ≤ 8796093022208 := by omega
  have HS := Lib.hid hS
  have HT := Lib.hid hT
  have HM := Lib.hid hm
  have kmk : (Instr.makeSlice 22 (.int .i64 T) (.int .i64 T)).run Tryz.prog w = .ok (.slice (some ⟨w.heap.size, 0, none⟩) T T) (w.alloc (.cells (cellsF T (fun _ => 0)) 5)) := by
    obtain ⟨i0, hi, hi3⟩ := Option.map_eq_some_iff.1 infoByte2
    obtain ⟨hz0, hz12⟩ := Prod.mk.inj hi3
    obtain ⟨hz1, hz2⟩ := Prod.mk.inj hz12
    have h := run_make (P := Tryz.prog) w 22 5 i0 (.int .u8 0) Tryz.underlying22 hi hz0 .i64 .i64 T T (by omega) (Int.le_refl _) (by rw [hz2]; omega) (by omega)
    rw [hz1, Int.toNat_natCast, madeBytes] at h
    exact h
  have hrow0 : Hid (Row (w.alloc (.cells (cellsF T (fun _ => 0)) 5)) w.heap.size T (Gd Z S 0 0 0)) := Lib.hid fun i hi => by
    rw [Gd_zero]
    exact ⟨((Blk.new w 5 (cellsF T fun _ => 0)).cell i).trans (cellsF_at _ _ hi), (Blk.new w 5 (cellsF T fun _ => 0)).frozen i⟩
  have hbel0 : Hid (Below w.heap.size w (w.alloc (.cells (cellsF T (fun _ => 0)) 5))) := Lib.hid ((Below.refl _ _).alloc (Nat.le_refl _) _)
  have eT : T - Z = S := by omega
  have eT2 : (Z : Int) ≤ (T : Int) := by omega
  have hTS : (T = Z) = False := by simp; omega
  have hTS2 : (Z = T) = False := by simp; omega
  have HZZ := Lib.hid hZ
  clear hm hS hT hZ
  go_wp2_with fail
  clear e1 e2 e3 e4 kmk eT eT2 hTS hTS2 c49
  have hroom : ∀ k, k ≤ n → bnum (l.take k) < 58 ^ S := fun k hk => by
    rcases Nat.lt_or_ge k z with h | h
    · rw [bnum_take_lz l k (by rw [← HZ.out]; omega)]
      exact Nat.pow_pos (by decide)
    · have h1 := bnum_drop_lz l k (by rw [← HZ.out]; exact h) (by rw [HN.out]; exact hk)
      rw [← HZ.out] at h1
      have h2 : 256 ^ (k - z) ≤ 256 ^ m := Nat.pow_le_pow_right (by decide) (by have := HM.out; omega)
      have h3 := room58 m
      rw [← HS.out] at h3
      omega
  have HROOM := Lib.hid hroom
  clear hroom
  have hS0 : 0 < S := by have := HS.out; omega
  go_loopw [7, 10] (fun vi vh wr => ∃ k th : Nat, z ≤ k ∧ k ≤ n ∧ th ≤ S ∧ vi = .int .i64 k ∧ vh = .int .i64 ((S : Int) - 1 - (th : Int)) ∧ Hid (bnum (l.take k) < 58 ^ th) ∧ Hid (Row wr w.heap.size T (Gd Z S (bnum (l.take k)) (bnum (l.take k)) 0)) ∧ Hid (Below w.heap.size w wr)) (fun vi _ _ => n - (intOf vi).toNat)
  case atStart =>
    have h0 : bnum (l.take z) = 0 := bnum_take_lz l z (by rw [← HZ.out]; exact Nat.le_refl _)
    refine ⟨z, 0, Nat.le_refl _, hzn, Nat.zero_le _, rfl, congrArg (Value.int .i64) (by omega), ?_, ?_, hbel0⟩
    · rw [h0]; exact Lib.hid (by decide)
    · rw [h0]; exact hrow0
  case round =>
    clear hrow0 hbel0
    obtain ⟨k, th, hzk, hkn, hth, rfl, rfl, hNth, hrow, hbel⟩ := hrel
    by_cases hk : k < n
    · obtain ⟨x, hx⟩ : ∃ x, l[k]? = some x := ⟨_, List.getElem?_eq_getElem (by rw [HN.out]; exact hk)⟩
      obtain ⟨c1, hc1⟩ : ∃ c, c = x.toNat := ⟨_, rfl⟩
      have hc256 : c1 < 256 := by rw [hc1]; exact x.toNat_lt
      have hsucc : bnum (l.take (k + 1)) = 256 * bnum (l.take k) + c1 := by rw [hc1]; exact bnum_take_succ l k x hx
      have hMr := HROOM.out (k + 1) (by omega)
      rw [hsucc] at hMr
      obtain ⟨N, hN⟩ : ∃ N, N = bnum (l.take k) := ⟨_, rfl⟩
      rw [← hN] at hNth hrow hsucc hMr
      have c0 : wr.cell? ⟨b, o + k, none⟩ = some (.int .u8 (c1 : Int)) := by
        rw [hbel.out.cell (p := ⟨b, o + k, none⟩) hb, HR.out k x hx, hc1]
      have Hsucc := Lib.hid hsucc
      have HMr := Lib.hid hMr
      obtain ⟨w0, hw0⟩ : ∃ w0, w0 = wr := ⟨_, rfl⟩
      subst hw0
      clear hsucc hMr hN hc1 hx
      go_wp2_with fail
      go_loopw [8, 11] (fun vj vc wq => ∃ t : Nat, t ≤ S ∧ vj = .int .i64 ((S : Int) - 1 - (t : Int)) ∧ vc = .int .u32 (car 58 256 N c1 t : Nat) ∧ Hid (Row wq w.heap.size T (Gd Z S N (256 * N + c1) t)) ∧ Hid (Below w.heap.size w wq)) (fun vj _ _ => (intOf vj + 1).toNat)
      case atStart =>
        refine ⟨0, Nat.zero_le _, congrArg (Value.int .i64) (by omega), by rw [car_start], Lib.hid (hrow.out.ext (fun i hi => Gd_start Z S N _ i (by have := HT.out; have := HZZ.out; omega))), hbel⟩
      case round =>
        clear c0 hrow hbel
        obtain ⟨t, ht, rfl, rfl, hrow, hbel⟩ := hrel
        have hcr := car_le 58 256 N c1 t (by decide) hc256
        obtain ⟨cr, hcrE⟩ : ∃ cr, cr = car 58 256 N c1 t := ⟨_, rfl⟩
        rw [← hcrE] at hcr
        rw [← hcrE]
        have HC := Lib.hid hcrE
        clear hcrE
        by_cases hex : th ≤ t ∧ cr = 0
        · obtain ⟨htt, hc0⟩ := hex
          have hNt : N < 58 ^ t := Nat.lt_of_lt_of_le hNth.out (Nat.pow_le_pow_right (by decide) htt)
          have hMt : 256 * N + c1 < 58 ^ t := by
            have h := car_end 58 256 N c1 t hNt
            rw [← HC.out, hc0] at h
            rcases Nat.div_eq_zero_iff.1 h.symm with h2 | h2
            · exact absurd h2 (Nat.pos_iff_ne_zero.1 (Nat.pow_pos (by decide)))
            · exact h2
          have HMt := Lib.hid hMt
          have HR2 := Lib.hid (hrow.out.ext (fun i hi => Gd_end Z S N (256 * N + c1) t i hNt hMt (by have := HT.out; have := HZZ.out; omega)))
          have hgt : ((S : Int) - 1 - (th : Int) < (S : Int) - 1 - (t : Int)) = False := by simp; omega
          subst hc0
          clear hNt hMt hrow
          go_wp2
          go_roundw
          case rel => exact ⟨k + 1, t, by omega, by omega, ht, by go_num, rfl, by rw [Hsucc.out]; exact HMt, by rw [Hsucc.out]; exact HR2, hbel⟩
          case measure => simp [intOf]; omega
        · have htS : t < S := by
            rcases Nat.lt_or_ge t S with h | h
            · exact h
            · exfalso
              have e : t = S := by omega
              apply hex
              refine ⟨by omega, ?_⟩
              rw [HC.out, car_end 58 256 N c1 t (Nat.lt_of_lt_of_le hNth.out (Nat.pow_le_pow_right (by decide) (by omega))), e]
              exact Nat.div_eq_of_lt HMr.out
          obtain ⟨jn, hjn⟩ : ∃ jn : Nat, jn = S - 1 - t := ⟨_, rfl⟩
          have hjI : (S : Int) - 1 - (t : Int) = (jn : Int) := by omega
          have hjS : (jn : Int) < S := by omega
          have hj0 : (0 : Int) ≤ jn := by omega
          rw [hjI]
          obtain ⟨d, hd⟩ : ∃ d, d = N / 58 ^ t % 58 := ⟨_, rfl⟩
          have hd58 : d < 58 := by rw [hd]; exact Nat.mod_lt _ (by decide)
          have hTT : T = Z + S := by have := HT.out; have := HZZ.out; omega
          have cd : w0.cell? ⟨w.heap.size, Z + jn, none⟩ = w0.cell? ⟨w.heap.size, Z + jn, none⟩ := rfl
          clear cd
          have cd : wr.cell? ⟨w.heap.size, Z + jn, none⟩ = some (.int .u8 (d : Int)) := by
            rw [hrow.out.cell (by omega), hjn, Gd_at Z S N _ t htS, hd]
          have fd := hrow.out.frozen (i := Z + jn) (by omega)
          obtain ⟨p, hp⟩ : ∃ p, p = (cr + 256 * d) % 58 := ⟨_, rfl⟩
          obtain ⟨cr2, hcr2⟩ : ∃ c, c = (cr + 256 * d) / 58 := ⟨_, rfl⟩
          have hpI : ((cr : Int) + 256 * (d : Int)) % 58 = (p : Int) := by omega
          have hcI : ((cr : Int) + 256 * (d : Int)) / 58 = (cr2 : Int) := by omega
          have hp58 : p < 58 := by omega
          have hpM : p = (256 * N + c1) / 58 ^ t % 58 := by rw [hp, HC.out, hd]; exact car_digit 58 256 N c1 t (by decide)
          have hcM : cr2 = car 58 256 N c1 (t + 1) := by rw [hcr2, HC.out, hd]; exact car_next 58 256 N c1 t (by decide)
          have hset := hrow.out.set_ (i := Z + jn) (by omega) p
          have HST := Lib.hid (hset.ext (G := Gd Z S N (256 * N + c1) (t + 1)) (fun i hi => by rw [hjn, hpM]; exact Gd_set Z S N _ t i htS (by omega)))
          have HB2 := Lib.hid (hbel.out.setCell (p := ⟨w.heap.size, Z + jn, none⟩) (Nat.le_refl _) (.int .u8 (p : Int)))
          have HCM := Lib.hid hcM
          have HJ := Lib.hid hjn
          clear hset hpM hcM hp hcr2 hd hjn hjI hTT hrow hbel
          by_cases hlt : t < th
          · have hgt : (S : Int) - 1 - (th : Int) < (jn : Int) := by have := HJ.out; omega
            go_wp2
            go_roundw
            case rel => exact ⟨t + 1, by omega, congrArg (Value.int .i64) (by have := HJ.out; omega), by rw [← HCM.out]; exact congrArg (Value.int .u32) hcI, HST, HB2⟩
            case measure => simp [intOf]
          · have hgt : ((S : Int) - 1 - (th : Int) < (jn : Int)) = False := by have := HJ.out; simp; omega
            have hcrn : ((cr : Int) == 0) = false := by
              rw [beq_eq_false_iff_ne]
              intro e
              exact hex ⟨by omega, by omega⟩
            go_wp2
            go_roundw
            case rel => exact ⟨t + 1, by omega, congrArg (Value.int .i64) (by have := HJ.out; omega), by rw [← HCM.out]; exact congrArg (Value.int .u32) hcI, HST, HB2⟩
            case measure => simp [intOf]
    · have hkn2 : k = n := by omega
      subst hkn2
      have htk : l.take k = l := List.take_of_length_le (by rw [HN.out]; exact Nat.le_refl _)
      rw [htk] at hrow
      obtain ⟨N, hN⟩ : ∃ N, N = bnum l := ⟨_, rfl⟩
      have hKN := HK.out
      have hNS := HROOM.out k (Nat.le_refl _)
      rw [htk] at hNS
      rw [← hN] at hrow hKN hNS
      have hKS : K ≤ S := hKN.le_of_lt hNS
      have HKN := Lib.hid hKN
      have HNN := Lib.hid hN
      have HNS := Lib.hid hNS
      obtain ⟨w0, hw0⟩ : ∃ w0, w0 = wr := ⟨_, rfl⟩
      subst hw0
      obtain ⟨q, hq⟩ : ∃ q, q = S - K := ⟨_, rfl⟩
      have HQ := Lib.hid hq
      clear hq hKN hNS hN htk HROOM hNth
      have hTT : Hid (T = Z + S) := Lib.hid (by have := HT.out; have := HZZ.out; omega)
      go_upto_block 6 with (fail)
      go_cut [8] from 92 to 103 (fun v wx => v = .int .i64 (q : Int) ∧ wx = w0)
      case first =>
        go_wp2_with fail
        go_loop [8] (fun v => ∃ j : Nat, j ≤ q ∧ v = .int .i64 j) (fun v => S - (intOf v).toNat)
        case atStart => exact ⟨0, by omega, rfl⟩
        case round =>
          obtain ⟨j, hj, rfl⟩ := hrel
          have hqS : q ≤ S := by rw [HQ.out]; omega
          by_cases hjq : j < q
          · have c0 : w0.cell? ⟨w.heap.size, Z + j, none⟩ = some (.int .u8 0) := by
              rw [hrow.out.cell (by have := hTT.out; omega), Gd_same _ _ _ _ (by omega) (by omega), Nat.add_sub_cancel_left, Nat.div_eq_of_lt (Nat.lt_of_lt_of_le HKN.out.2 (Nat.pow_le_pow_right (by decide) (by have := HQ.out; omega)))]
              rfl
            have hjS : (j : Int) < S := by omega
            go_wp2
            go_round
            case rel => exact ⟨j + 1, by omega, by go_num⟩
            case measure => simp [intOf]; omega
          · obtain rfl : j = q := by omega
            by_cases hjS : j < S
            · have hK0 : 0 < K := by have := HQ.out; omega
              obtain ⟨d, hd⟩ : ∃ d, d = N / 58 ^ (K - 1) % 58 := ⟨_, rfl⟩
              have hd0 : d ≠ 0 := by
                intro e
                have h1 := lt_of_digit_zero (B := 58) (k := K - 1) (n := N) (by decide) (by rw [show K - 1 + 1 = K from by omega]; exact HKN.out.2) (by rw [← hd, e])
                rcases HKN.out.1 with h2 | h2
                · exact absurd h2 (by omega)
                · exact absurd h1 (Nat.not_lt.2 h2)
              have c0 : w0.cell? ⟨w.heap.size, Z + j, none⟩ = some (.int .u8 (d : Int)) := by
                rw [hrow.out.cell (by have := hTT.out; omega), Gd_same _ _ _ _ (by omega) (by omega), Nat.add_sub_cancel_left, hd, show S - 1 - j = K - 1 from by have := HQ.out; omega]
              have hdI : ((d : Int) == 0) = false := by rw [beq_eq_false_iff_ne]; omega
              have hjSI : (j : Int) < S := by omega
              clear hd hd0
              go_wp2
              go_meet
              exact ⟨rfl, rfl⟩
            · have hjSI : ((j : Int) < S) = False := by simp; omega
              go_wp2
              go_meet
              exact ⟨rfl, rfl⟩
      case rest =>
      obtain ⟨rfl, hw1⟩ := hcut
      have hw2 := hw1.symm
      subst hw2
      obtain ⟨E, hE⟩ : ∃ E, E = K + z := ⟨_, rfl⟩
      have hqS : q ≤ S := by rw [HQ.out]; omega
      have e1 : (S : Int) - (q : Int) = (K : Int) := by have := HQ.out; omega
      have e2 : (K : Int) + (z : Int) = (E : Int) := by omega
      have e3 : (E : Int) ≤ T := by have := hTT.out; have := HZZ.out; omega
      have HE := Lib.hid hE
      clear hE
      go_upto_if 112 with (fail)
      go_cut [7] from 111 to 121 (fun v wx => v = v ∧ Hid (Row wx w.heap.size T (fun i => if i < z then 49 else Gd Z S N N 0 i)) ∧ Hid (Below w.heap.size w wx))
      case first =>
        by_cases hz0 : z = 0
        · subst hz0
          go_wp2
          go_meet
          exact ⟨trivial, Lib.hid (hrow.out.ext (fun i _ => by rw [if_neg (Nat.not_lt_zero i)])), hbel⟩
        · have hzI : ((z : Int) == 0) = false := by rw [beq_eq_false_iff_ne]; omega
          go_wp2_with fail
          go_loopw [7] (fun v wq => ∃ i : Nat, i ≤ z ∧ v = .int .i64 i ∧ Hid (Row wq w.heap.size T (fun x => if x < i then 49 else Gd Z S N N 0 x)) ∧ Hid (Below w.heap.size w wq)) (fun v _ => z - (intOf v).toNat)
          case atStart => exact ⟨0, by omega, rfl, Lib.hid (hrow.out.ext (fun i _ => by rw [if_neg (Nat.not_lt_zero i)])), hbel⟩
          case round =>
            clear hrow hbel
            obtain ⟨i, hi, rfl, hrow, hbel⟩ := hrel
            by_cases hiz : i < z
            · have hiT : i < T := by have := hTT.out; have := HZZ.out; omega
              have cd := hrow.out.cell hiT
              have fd := hrow.out.frozen hiT
              have hset := hrow.out.set_ hiT 49
              have HST := Lib.hid (hset.ext (G := fun x => if x < i + 1 then 49 else Gd Z S N N 0 x) (fun x _ => by
                unfold updF
                by_cases e : x = i
                · rw [if_pos e, if_pos (by omega)]
                · rw [if_neg e]
                  show (if x < i then _ else _) = _
                  by_cases h : x < i
                  · rw [if_pos h, if_pos (by omega)]
                  · rw [if_neg h, if_neg (by omega)]))
              have HB2 := Lib.hid (hbel.out.setCell (p := ⟨w.heap.size, i, none⟩) (Nat.le_refl _) (.int .u8 ((49 : Nat) : Int)))
              have hiE : (i : Int) < E := by have := HE.out; omega
              have hizI : (i : Int) < z := by omega
              clear hset hrow hbel
              go_wp2
              go_roundw
              case rel => exact ⟨i + 1, by omega, by go_num, HST, HB2⟩
              case measure => simp [intOf]; omega
            · obtain rfl : i = z := by omega
              go_wp2
              go_meet
              exact ⟨trivial, hrow, hbel⟩
      case rest =>
      obtain ⟨_, hrow2, hbel2⟩ := hcut
      clear hrow hbel
      have HCV := Lib.hid fun (W : World) (hR : Row W w.heap.size T (fun x => if x < z then 49 else if x < z + K then (btcA.getD (N / 58 ^ (K - 1 - (x - z)) % 58) 0).toNat else Gd Z S N N 0 x)) => conv_rd (P := Tryz.prog) W Tryz.underlying22 Tryz.underlying5 Tryz.underlying9 (n := E) (l := List.replicate z 49 ++ (fw 58 K N).map fun d => btcA.getD d 0) (by rw [List.length_append, List.length_replicate, List.length_map, fw_len, HE.out]; omega) (hR.rd (by rw [List.length_append, List.length_replicate, List.length_map, fw_len]; have := hTT.out; have := HZZ.out; omega) (fun x y hy => by
        by_cases hxz : x < z
        · rw [List.getElem?_append_left (by rw [List.length_replicate]; exact hxz), List.getElem?_replicate, if_pos hxz] at hy
          rw [if_pos hxz, ← Option.some.inj hy]
          rfl
        · rw [List.getElem?_append_right (by rw [List.length_replicate]; omega), List.length_replicate, List.getElem?_map] at hy
          obtain ⟨d, hd, rfl⟩ := Option.map_eq_some_iff.1 hy
          have hxK : x - z < K := by
            have := (List.getElem?_eq_some_iff.1 hd).1
            rwa [fw_len] at this
          rw [fw_get 58 K N _ hxK] at hd
          rw [if_neg hxz, if_pos (by omega), Option.some.inj hd])) (c := T)
      go_wp2_with fail
      go_loopw [7, 8] (fun vi vj wq => ∃ t i j : Nat, t ≤ K ∧ Hid (i = z + t) ∧ Hid (j = q + t) ∧ vi = .int .i64 i ∧ vj = .int .i64 j ∧ Hid (Row wq w.heap.size T (fun x => if x < z then 49 else if x < z + t then (btcA.getD (N / 58 ^ (K - 1 - (x - z)) % 58) 0).toNat else Gd Z S N N 0 x)) ∧ Hid (Below w.heap.size w wq)) (fun _ vj _ => S - (intOf vj).toNat)
      case atStart => exact ⟨0, z, q, by omega, Lib.hid (by omega), Lib.hid (by omega), rfl, rfl, Lib.hid (hrow2.out.ext (fun x _ => by
        show (if x < z then _ else _) = _
        by_cases h : x < z
        · rw [if_pos h, if_pos h]
        · rw [if_neg h, if_neg h, if_neg (by omega)])), hbel2⟩
      case round =>
        clear hrow2 hbel2
        obtain ⟨t, i, j, htK, hi, hj, rfl, rfl, hrow, hbel⟩ := hrel
        by_cases ht : t < K
        · have hjS : j < S := by have := hj.out; have := HQ.out; omega
          have hiT : i < T := by have := hi.out; have := hTT.out; have := HZZ.out; omega
          have hZj : Z + j < T := by have := hTT.out; omega
          obtain ⟨d, hd⟩ : ∃ d, d = N / 58 ^ (K - 1 - t) % 58 := ⟨_, rfl⟩
          have hd58 : d < 58 := by rw [hd]; exact Nat.mod_lt _ (by decide)
          have c1 : wr.cell? ⟨w.heap.size, Z + j, none⟩ = some (.int .u8 (d : Int)) := by
            rw [hrow.out.cell hZj, if_neg (by have := HZZ.out; omega), if_neg (by have := HZZ.out; omega), Gd_same _ _ _ _ (by omega) (by omega), Nat.add_sub_cancel_left, hd, show S - 1 - j = K - 1 - t from by have := hj.out; have := HQ.out; omega]
          obtain ⟨y, hy⟩ : ∃ y, y = (btcA.getD d 0).toNat := ⟨_, rfl⟩
          have c2 : wr.cell? ⟨g, 128 + d, none⟩ = some (.int .u8 (y : Int)) := by
            rw [hbel.out.cell (p := ⟨g, 128 + d, none⟩) hgw, HG.out.cell, alphC_enc _ _ hd58, hy]
          have cd := hrow.out.cell hiT
          have fd := hrow.out.frozen hiT
          have hset := hrow.out.set_ hiT y
          have HST := Lib.hid (hset.ext (G := fun x => if x < z then 49 else if x < z + (t + 1) then (btcA.getD (N / 58 ^ (K - 1 - (x - z)) % 58) 0).toNat else Gd Z S N N 0 x) (fun x _ => by
            have hio := hi.out
            unfold updF
            by_cases e : x = i
            · rw [if_pos e, if_neg (by omega), if_pos (by omega), hy, hd, e, hio, Nat.add_sub_cancel_left]
            · rw [if_neg e]
              show (if x < z then _ else if x < z + t then _ else _) = _
              by_cases h : x < z
              · rw [if_pos h, if_pos h]
              · rw [if_neg h, if_neg h]
                by_cases h2 : x < z + t
                · rw [if_pos h2, if_pos (by omega)]
                · rw [if_neg h2, if_neg (by omega)]))
          have HB2 := Lib.hid (hbel.out.setCell (p := ⟨w.heap.size, i, none⟩) (Nat.le_refl _) (.int .u8 (y : Int)))
          have hiE : (i : Int) < E := by have := hi.out; have := HE.out; omega
          have hjI : (j : Int) < S := by omega
          have hdI : (d : Int) < 58 := by omega
          have hd0 : (0 : Int) ≤ d := by omega
          have hi0 : (0 : Int) ≤ i := by omega
          have hj0 : (0 : Int) ≤ j := by omega
          clear hset hrow hbel hd hy
          go_wp2
          refine wp_region_still_tail 12 (by kernel_rfl) (by kernel_rfl) ?_
          simp only [List.take_succ_cons, List.take_zero, List.drop_succ_cons, List.drop_zero]
          repeat still_step
          refine wpStill_nil ?_
          change wpList _ _ _ _ _ wr.drew
          go_wp2
          go_roundw
          case rel => exact ⟨t + 1, i + 1, j + 1, by omega, Lib.hid (by have := hi.out; omega), Lib.hid (by have := hj.out; omega), by go_num, by go_num, HST.out.drew, below_drewN HB2.out 1⟩
          case measure => simp [intOf]; omega
        · obtain rfl : t = K := by omega
          have hjS : ((j : Int) < S) = False := by have := hj.out; have := HQ.out; simp; omega
          have kcv := HCV.out wr hrow.out
          clear hrow HCV
          go_wp2
          go_ret
          exact ⟨by rw [HZ.out, HNN.out]; rfl, hbel.out⟩
end Go.Proofs.YtilngifollpoeaaGreatFmt
