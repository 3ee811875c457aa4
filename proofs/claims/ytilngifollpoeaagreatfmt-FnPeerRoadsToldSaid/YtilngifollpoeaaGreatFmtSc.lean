/- base58 as the specification writes it: spec.PeerBase58's walk. -/
import Derived.Test.YtilngifollpoeaaGreatFmtSb
import Derived.Deep.CutRange
import Derived.Lib.AppendZerosOnto
import Derived.Deep.CutBlock
namespace Go.Proofs.YtilngifollpoeaaGreatFmt
open Go.RowKit

theorem btc_extract {d : Nat} (hd : d < 58) : (str btcA).extract d (d + 1) = str [btcA.getD d 0] := by
  have h : ∀ d : Fin 58, (str btcA).extract d.val (d.val + 1) = str [btcA.getD d.val 0] := by decide
  exact h ⟨d, hd⟩

theorem str_add (a b : List UInt8) : str a ++ str b = str (a ++ b) := by
  unfold str
  simp [ByteArray.ext_iff]

set_option maxHeartbeats 8000000 in
set_option maxRecDepth 100000 in
theorem PeerBase58_any (v : Value) (K0 : Nat) (l : List UInt8) (w : World) (hK : Can 58 K0 (bnum l)) (hr : Rd w w.heap.size v l) (hl : l.length ≤ 1000000) :
    Calls Tryz.prog 20 #[v] w (TxEnds (t58 K0 l) w) := by
  obtain ⟨b, o, c, rfl, hb, hlc, hcm, hat⟩ := hr
  obtain ⟨n, hn⟩ : ∃ n, n = l.length := ⟨_, rfl⟩
  rw [← hn] at hlc hl ⊢
  have HN := Lib.hid hn
  have HR := Lib.hid hat
  have HK0 := Lib.hid hK
  clear hn hat hK
  go_enter Tryz.func20, Tryz.ntmps20
  go_wp2_with fail
  go_loopw [3, 14] (fun vn vk wr => ∃ (k K cc : Nat) (ao : Option Addr), k ≤ n ∧ vk = .int .i64 k ∧ vn = .slice ao K cc ∧ K ≤ 2 * k + 2 ∧ Hid (Can 58 K (bnum (l.take k))) ∧ Hid (NumAt w.heap.size wr ao K cc (fw 58 K (bnum (l.take k)))) ∧ Hid (Below w.heap.size w wr)) (fun _ vk _ => n - (intOf vk).toNat)
  case atStart => exact ⟨0, 0, 0, none, by omega, rfl, rfl, by omega, Lib.hid Can.start, Lib.hid ⟨rfl, Nat.le_refl _, .inl ⟨rfl, rfl, rfl⟩⟩, Below.refl _ _⟩
  case round =>
    obtain ⟨k, K, cc, ao, hkn, rfl, rfl, hK2, hcan, hnum, hbel⟩ := hrel
    by_cases hk : k < n
    · obtain ⟨x, hx⟩ : ∃ x, l[k]? = some x := ⟨_, List.getElem?_eq_getElem (by rw [← HN.out]; exact hk)⟩
      obtain ⟨c1, hc1⟩ : ∃ c, c = x.toNat := ⟨_, rfl⟩
      have hc256 : c1 < 256 := by rw [hc1]; exact x.toNat_lt
      obtain ⟨M, hM⟩ : ∃ M, M = bnum (l.take (k + 1)) := ⟨_, rfl⟩
      obtain ⟨N, hN⟩ : ∃ N, N = bnum (l.take k) := ⟨_, rfl⟩
      have hsucc : M = 256 * N + c1 := by rw [hM, hN, hc1]; exact bnum_take_succ l k x hx
      have hMlt : M < 256 ^ (k + 1) := by
        have h := bnum_lt (l.take (k + 1))
        rw [List.length_take, Nat.min_eq_left (by rw [← HN.out]; omega), ← hM] at h
        exact h
      rw [← hN] at hcan hnum
      have c0 : wr.cell? ⟨b, o + k, none⟩ = some (.int .u8 (c1 : Int)) := by
        rw [hbel.out.cell (p := ⟨b, o + k, none⟩) hb, HR.out k x hx, hc1]
      have Hsucc := Lib.hid hsucc
      have HMlt := Lib.hid hMlt
      have HM := Lib.hid hM
      obtain ⟨w0, hw0⟩ : ∃ w0, w0 = wr := ⟨_, rfl⟩
      subst hw0
      have hkI : (k : Int) < n := by omega
      clear hsucc hMlt hM hN hc1 hx
      go_wp2_with fail
      go_loopw [6, 7] (fun vc vj wq => ∃ t : Nat, t ≤ K ∧ vj = .int .i64 ((K : Int) - 1 - (t : Int)) ∧ vc = .int .i64 (car 58 256 N c1 t : Nat) ∧ Hid (NumAt w.heap.size wq ao K cc (mix 58 K N M t)) ∧ Hid (Below w.heap.size w wq)) (fun _ vj _ => (intOf vj + 1).toNat)
      case atStart =>
        refine ⟨0, Nat.zero_le _, congrArg (Value.int .i64) (by omega), by rw [car_start], ?_, hbel⟩
        rw [mix_start]
        exact hnum
      case round =>
        clear c0 hnum hbel
        obtain ⟨t, ht, rfl, rfl, hnum, hbel⟩ := hrel
        have hcr := car_le 58 256 N c1 t (by decide) hc256
        obtain ⟨cr, hcrE⟩ : ∃ cr, cr = car 58 256 N c1 t := ⟨_, rfl⟩
        rw [← hcrE] at hcr
        rw [← hcrE]
        have HC := Lib.hid hcrE
        clear hcrE
        by_cases htK : t < K
        · obtain ⟨hlen, hKc, hcase⟩ := hnum.out
          obtain ⟨g, rfl, hBg, hgw, hrow⟩ : ∃ g, ao = some ⟨g, 0, none⟩ ∧ w.heap.size ≤ g ∧ g < wr.heap.size ∧ Row wr g K (fun i => (mix 58 K N M t).getD i 0) := by
            rcases hcase with ⟨h0, _⟩ | ⟨_, g, h⟩
            · omega
            · exact ⟨g, h⟩
          obtain ⟨jn, hjn⟩ : ∃ jn : Nat, jn = K - 1 - t := ⟨_, rfl⟩
          have hjI : (K : Int) - 1 - (t : Int) = (jn : Int) := by omega
          have hjS : (jn : Int) < K := by omega
          have hj0 : (0 : Int) ≤ jn := by omega
          rw [hjI]
          obtain ⟨d, hd⟩ : ∃ d, d = N / 58 ^ t % 58 := ⟨_, rfl⟩
          have hd58 : d < 58 := by rw [hd]; exact Nat.mod_lt _ (by decide)
          have cd : wr.cell? ⟨g, jn, none⟩ = some (.int .u8 (d : Int)) := by
            rw [hrow.cell (by omega), hjn, mix_getD 58 K N M t htK, hd]
          have fd := hrow.frozen (i := jn) (by omega)
          obtain ⟨p, hp⟩ : ∃ p, p = (cr + 256 * d) % 58 := ⟨_, rfl⟩
          obtain ⟨cr2, hcr2⟩ : ∃ c, c = (cr + 256 * d) / 58 := ⟨_, rfl⟩
          have hpI : ((cr : Int) + (d : Int) * 256) % 58 = (p : Int) := by omega
          have hcI : ((cr : Int) + (d : Int) * 256) / 58 = (cr2 : Int) := by omega
          have hp58 : p < 58 := by omega
          have hpM : p = M / 58 ^ t % 58 := by rw [hp, HC.out, hd, Hsucc.out]; exact car_digit 58 256 N c1 t (by decide)
          have hcM : cr2 = car 58 256 N c1 (t + 1) := by rw [hcr2, HC.out, hd]; exact car_next 58 256 N c1 t (by decide)
          have hset := (hrow.set_ (i := jn) (by omega) p).ext (G := fun i => (mix 58 K N M (t + 1)).getD i 0) (fun i _ => by
            rw [updF_set _ _ _ _ (by omega), hjn, hpM, mix_set 58 K N M t htK])
          have HST := Lib.hid (show NumAt w.heap.size (wr.setCell ⟨g, jn, none⟩ (.int .u8 (p : Int))) (some ⟨g, 0, none⟩) K cc (mix 58 K N M (t + 1)) from
            ⟨mix_len 58 K N M (t + 1) (by omega), hKc, .inr ⟨by omega, g, rfl, hBg, by simpa using hgw, hset⟩⟩)
          have HB2 := Lib.hid (hbel.out.setCell (p := ⟨g, jn, none⟩) hBg (.int .u8 (p : Int)))
          have HCM := Lib.hid hcM
          have HJ := Lib.hid hjn
          clear hset hpM hcM hp hcr2 hd hjn hjI hrow hbel hnum hcase hlen
          go_wp2
          go_roundw
          case rel => exact ⟨t + 1, by omega, congrArg (Value.int .i64) (by have := HJ.out; omega), by rw [← HCM.out]; exact congrArg (Value.int .i64) hcI, HST, HB2⟩
          case measure => simp [intOf]
        · obtain rfl : t = K := by omega
          have hq0 : cr = M / 58 ^ t := by rw [HC.out, car_end 58 256 N c1 t hcan.out.2, Hsucc.out]
          have HQ0 := Lib.hid hq0
          have hst : t = 0 ∨ 58 ^ (t - 1) ≤ M := by
            rcases hcan.out.1 with h | h
            · exact .inl h
            · exact .inr (by rw [Hsucc.out]; omega)
          have HST0 := Lib.hid hst
          have hnum0 : Hid (NumAt w.heap.size wr ao t cc (fw 58 t M)) := by
            have h := hnum.out
            rw [mix_end] at h
            exact Lib.hid h
          have hneg : ((t : Int) - 1 - (t : Int)) = -1 := by omega
          rw [hneg]
          obtain ⟨w1, hw1⟩ : ∃ w1, w1 = wr := ⟨_, rfl⟩
          subst hw1
          clear hq0 hst hnum hneg
          go_wp2_with fail
          go_loopw [3, 6] (fun vn vc wq => ∃ (K2 q : Nat) (v : Value), vn = v ∧ vc = .int .i64 q ∧ q < 256 ∧ Hid (q = M / 58 ^ K2) ∧ Hid (K2 = 0 ∨ 58 ^ (K2 - 1) ≤ M) ∧ Hid (∃ (a2 : Option Addr) (c2 : Nat), v = .slice a2 K2 c2 ∧ NumAt w.heap.size wq a2 K2 c2 (fw 58 K2 M)) ∧ Hid (Below w.heap.size w wq)) (fun _ vc _ => (intOf vc).toNat)
          case atStart => exact ⟨t, cr, _, rfl, rfl, hcr, HQ0, HST0, Lib.hid ⟨ao, cc, rfl, hnum0.out⟩, hbel⟩
          case round =>
            clear hnum0 hbel HQ0 HST0
            obtain ⟨K2, q, v, hv, rfl, hq256, hq, hlow, hnumv, hbel⟩ := hrel
            have hv' := hv.symm
            subst hv'
            obtain ⟨a2, c2, hva, hnum⟩ := hnumv.out
            have hKb := digits_le HMlt.out hlow.out
            by_cases hq1 : 0 < q
            · obtain ⟨d, hd⟩ : ∃ d, d = q % 58 := ⟨_, rfl⟩
              obtain ⟨q2, hq2⟩ : ∃ c, c = q / 58 := ⟨_, rfl⟩
              have hdI : (q : Int) % 58 = (d : Int) := by omega
              have hqI : (q : Int) / 58 = (q2 : Int) := by omega
              have hd58 : d < 58 := by omega
              have hlt : q2 < q := by omega
              have hdM : d = M / 58 ^ K2 % 58 := by rw [hd, hq.out]
              have hqM : Hid (q2 = M / 58 ^ (K2 + 1)) := Lib.hid (by rw [hq2, hq.out, Nat.div_div_eq_div_mul, Nat.pow_succ])
              have hlow2 : Hid (K2 + 1 = 0 ∨ 58 ^ (K2 + 1 - 1) ≤ M) := Lib.hid (.inr (by rw [Nat.add_sub_cancel]; exact pow_le_of_div (by rw [← hq.out]; exact hq1)))
              obtain ⟨g', c', W', hrun, hnum2, hb2⟩ := prepend w.heap.size K2 c2 d a2 (fw 58 K2 M) wr 22 hnum hbel.out.size (by omega)
              rw [← hva] at hrun
              have HN2 : Hid (NumAt w.heap.size W' (some ⟨g', 0, none⟩) (K2 + 1) c' (fw 58 (K2 + 1) M)) := Lib.hid (by rw [fw_cons, ← hdM]; exact hnum2)
              have HB2 := Lib.hid (hbel.out.trans (hb2.mono hbel.out.size))
              have hqp : (0 : Int) < q := by omega
              have hcast : ((K2 : Int) + 1) = ((K2 + 1 : Nat) : Int) := by omega
              clear hnum hnumv hva hbel hnum2 hb2 hdM hd hq2 hq hlow
              go_wp2_with (at_builtin; refine Lib.wpList_append_run _ rfl _ _ _ _ rfl _ _ rfl rfl _ _ hrun ?_)
              go_roundw
              case rel => exact ⟨K2 + 1, q2, _, rfl, rfl, by omega, hqM, hlow2, Lib.hid ⟨_, _, rfl, HN2.out⟩, HB2⟩
              case measure => simp [intOf]; omega
            · obtain rfl : q = 0 := by omega
              have hcan2 : Hid (Can 58 K2 (bnum (l.take (k + 1)))) := Lib.hid (by
                rw [← HM.out]
                exact Can.of (K := K2) (t := 0) hlow.out hq.out.symm)
              rw [HM.out] at hnum
              have HNM := Lib.hid hnum
              subst hva
              clear hnum hnumv
              go_wp2
              go_roundw
              case rel => exact ⟨k + 1, K2, c2, a2, by omega, by go_num, rfl, by omega, hcan2, HNM, hbel⟩
              case measure => simp [intOf]; omega
    · obtain rfl : k = n := by omega
      have htk : l.take k = l := List.take_of_length_le (by rw [← HN.out]; exact Nat.le_refl _)
      rw [htk] at hcan hnum
      obtain rfl : K = K0 := hcan.out.unique (by decide) HK0.out
      obtain ⟨N, hN⟩ : ∃ N, N = bnum l := ⟨_, rfl⟩
      have HNN := Lib.hid hN
      rw [← hN] at hnum
      obtain ⟨z, hz⟩ : ∃ z, z = lz l := ⟨_, rfl⟩
      have hzn : z ≤ k := by rw [hz, HN.out]; exact lz_le l
      have HZ := Lib.hid hz
      obtain ⟨w0, hw0⟩ : ∃ w0, w0 = wr := ⟨_, rfl⟩
      subst hw0
      clear hz hN htk hcan
      go_upto_block 6 with (fail)
      go_cut [8, 9] from 54 to 68 (fun v8 v9 wx => v8 = .string (str (List.replicate z 49)) ∧ v9 = .int .i64 z ∧ wx = w0)
      case first =>
        go_wp2_with fail
        go_loop [8, 9] (fun v8 v9 => ∃ i : Nat, i ≤ z ∧ v9 = .int .i64 i ∧ v8 = .string (str (List.replicate i 49))) (fun _ v9 => k - (intOf v9).toNat)
        case atStart => exact ⟨0, by omega, rfl, rfl⟩
        case round =>
          obtain ⟨i, hi, rfl, rfl⟩ := hrel
          obtain ⟨tx, htx⟩ : ∃ tx, tx = str (List.replicate i 49) := ⟨_, rfl⟩
          rw [← htx]
          have hsz : tx.size = i := by rw [htx, str_size, List.length_replicate]
          by_cases hiz : i < z
          · have hx : l[i]? = some 0 := lz_zero l i (by rw [← HZ.out]; exact hiz)
            have c0 : w0.cell? ⟨b, o + i, none⟩ = some (.int .u8 0) := by
              rw [hbel.out.cell (p := ⟨b, o + i, none⟩) hb]
              exact HR.out i 0 hx
            have hkn : (i : Int) < k := by omega
            have hadd : Hid (tx ++ ⟨#[49]⟩ = str (List.replicate (i + 1) 49)) := Lib.hid (by rw [htx, List.replicate_succ']; exact str_add _ [49])
            clear hx htx
            go_wp2
            go_round
            case rel => exact ⟨i + 1, by omega, by go_num, by rw [hadd.out]⟩
            case measure => simp [intOf]; omega
          · obtain rfl : i = z := by omega
            by_cases hkn : i < k
            · obtain ⟨x, hx⟩ : ∃ x, l[i]? = some x := ⟨_, List.getElem?_eq_getElem (by rw [← HN.out]; exact hkn)⟩
              have hx0 : x ≠ 0 := lz_stop l x (by rw [← HZ.out]; exact hx)
              have c0 : w0.cell? ⟨b, o + i, none⟩ = some (.int .u8 (x.toNat : Int)) := by
                rw [hbel.out.cell (p := ⟨b, o + i, none⟩) hb]
                exact HR.out i x hx
              have hxI : ((x.toNat : Int) == 0) = false := by
                rw [beq_eq_false_iff_ne]
                intro e
                exact hx0 (UInt8.toNat_inj.1 (by simpa using e))
              have hknI : (i : Int) < k := by omega
              clear hx hx0
              go_wp2
              go_meet
              exact ⟨rfl, rfl, rfl⟩
            · have hknI : ((i : Int) < k) = False := by simp; omega
              go_wp2
              go_meet
              exact ⟨rfl, rfl, rfl⟩
      case rest =>
      obtain ⟨rfl, rfl, hw1⟩ := hcut
      have hw2 := hw1.symm
      subst hw2
      obtain ⟨hlen, hKc, hcase⟩ := hnum.out
      have hK2' : K ≤ 2000002 := by omega
      go_wp2_with fail
      go_loop [8, 71] (fun v8 v71 => ∃ j : Nat, j ≤ K ∧ v71 = .int .i64 j ∧ v8 = .string (str (List.replicate z 49 ++ ((fw 58 K N).take j).map fun d => btcA.getD d 0))) (fun _ v71 => K - (intOf v71).toNat)
      case atStart => exact ⟨0, by omega, rfl, by rw [List.take_zero, List.map_nil, List.append_nil]⟩
      case round =>
        obtain ⟨j, hj, rfl, rfl⟩ := hrel
        obtain ⟨tx, htx⟩ : ∃ tx, tx = str (List.replicate z 49 ++ ((fw 58 K N).take j).map fun d => btcA.getD d 0) := ⟨_, rfl⟩
        rw [← htx]
        have hsz : tx.size = z + j := by rw [htx, str_size, List.length_append, List.length_replicate, List.length_map, List.length_take, fw_len, Nat.min_eq_left hj]
        by_cases hjK : j < K
        · obtain ⟨g, rfl, hBg, hgw, hrow⟩ : ∃ g, ao = some ⟨g, 0, none⟩ ∧ w.heap.size ≤ g ∧ g < w0.heap.size ∧ Row w0 g K (fun i => (fw 58 K N).getD i 0) := by
            rcases hcase with ⟨h0, _⟩ | ⟨_, g, h⟩
            · omega
            · exact ⟨g, h⟩
          obtain ⟨d, hd⟩ : ∃ d, (fw 58 K N)[j]? = some d := ⟨_, List.getElem?_eq_getElem (by rw [fw_len]; exact hjK)⟩
          have hd58 : d < 58 := fw_lt 58 (by decide) K N d (List.mem_of_getElem? hd)
          have cd : w0.cell? ⟨g, j, none⟩ = some (.int .u8 (d : Int)) := by
            rw [hrow.cell hjK, List.getD_eq_getElem?_getD, hd]
            rfl
          have hadd : Hid (tx ++ (str btcA).extract d (d + 1) = str (List.replicate z 49 ++ ((fw 58 K N).take (j + 1)).map fun d => btcA.getD d 0)) := Lib.hid (by
            rw [btc_extract hd58, htx, str_add, List.take_add_one, hd, List.map_append, List.append_assoc]
            rfl)
          have hex : ((str btcA).extract d (d + 1)).size = 1 := by rw [btc_extract hd58, str_size]; rfl
          have hjI : (j : Int) < K := by omega
          have hd0 : (0 : Int) ≤ d := by omega
          have hdI : (d : Int) + 1 ≤ 58 := by omega
          clear hd htx hrow hcase
          go_wp2
          go_round
          case rel => exact ⟨j + 1, by omega, by go_num, congrArg Value.string hadd.out⟩
          case measure => simp [intOf]; omega
        · obtain rfl : j = K := by omega
          have hjI : ((j : Int) < j) = False := by simp
          have htx2 : Hid (tx = str (t58 j l)) := Lib.hid (by
            rw [htx, List.take_of_length_le (by rw [fw_len]; exact Nat.le_refl _)]
            unfold t58
            rw [← HZ.out, ← HNN.out])
          clear htx
          go_wp2
          go_ret
          exact ⟨congrArg (fun t => Ending.returned (.string t)) htx2.out, hbel.out⟩
end Go.Proofs.YtilngifollpoeaaGreatFmt
