/- base58: FastBase58DecodingAlphabet on the texts that the encoding writes: the bytes come back. -/
import Derived.Test.YtilngifollpoeaaGreatFmtB58q
import Derived.Test.YtilngifollpoeaaGreatFmtB32y
import Derived.Deep.CutRange
import Derived.Deep.CutBlock
namespace Go.Proofs.YtilngifollpoeaaGreatFmt
open Go.RowKit

theorem infoWord : (Tryz.prog.info? 183).map (fun i => (i.zero, i.size, i.bytes)) = some (some (.int .u32 0), 1, 4) := by kernel_rfl

theorem makeRow {P : Program} (q : IntKind) (W : World) (T e : TypeId) (b n : Nat) (hT : P.underlying T = some (.slice e)) (hi : (P.info? e).map (fun i => (i.zero, i.size, i.bytes)) = some (some (.int q 0), 1, b)) (hb : b ≤ 8) (hn : n ≤ 1000000000) :
    ∃ W', (Instr.makeSlice T (.int .i64 n) (.int .i64 n)).run P W = .ok (.slice (some ⟨W.heap.size, 0, none⟩) n n) W' ∧ RowI q W' W.heap.size n (fun _ => 0) ∧ Below W.heap.size W W' ∧ W'.heap.size = W.heap.size + 1 := by
  obtain ⟨i0, h, h3⟩ := Option.map_eq_some_iff.1 hi
  obtain ⟨hz0, hz12⟩ := Prod.mk.inj h3
  obtain ⟨hz1, hz2⟩ := Prod.mk.inj hz12
  have hbn : b * n ≤ 8 * 1000000000 := Nat.mul_le_mul hb hn
  have hr := run_make (P := P) W T e i0 (.int q 0) hT h hz0 .i64 .i64 n n (by omega) (Int.le_refl _) (by rw [hz2]; have : ((b * n : Nat) : Int) = (b : Int) * n := by simp
                                                                                                         omega) (by omega)
  rw [hz1, Int.toNat_natCast] at hr
  refine ⟨_, hr, fun i hi' => ⟨?_, (Blk.new W e _).frozen i⟩, (Below.refl _ _).alloc (Nat.le_refl _) _, by simp⟩
  rw [(Blk.new W e _).cell]
  have hlt : i < (madeCells (Value.int q 0).cells (n * 1)).size := by rw [size_madeCells]; omega
  rw [Array.getElem?_eq_getElem hlt]
  simp [madeCells, Value.cells, Nat.mod_one]

/-- The words of a number's first digits. -/
def wordsF (M P j : Nat) : Nat := (fw 4294967296 M P).getD j 0

theorem wordsF_at (M P j : Nat) (h : j < M) : wordsF M P j = P / 4294967296 ^ (M - 1 - j) % 4294967296 := by
  unfold wordsF
  rw [List.getD_eq_getElem?_getD, fw_get _ _ _ _ h]
  rfl

/-- The bytes of a number, as far as they are written. -/
def outB (S N c i : Nat) : Nat := if i < c then N / 256 ^ (S - 1 - i) % 256 else 0

set_option maxHeartbeats 16000000 in
set_option maxRecDepth 100000 in
theorem Dec58_any (s : ByteArray) (K g : Nat) (l : List UInt8) (w : World) (hs : s.data.toList = t58 K l) (hK : Can 58 K (bnum l)) (hN0 : 0 < bnum l)
    (hg : Blk w g 192 (alphC (decT btcA 58) (fun j => (btcA.getD j 0).toNat))) (hl : l.length ≤ 1000000) :
    Calls Tryz.prog 139 #[.string s, .pointer (some ⟨g, 0, none⟩)] w (NewBE l w) := by
  have hlow : K = 0 ∨ 58 ^ (K - 1) ≤ bnum l := hK.1
  have hKb := digits_le (bnum_lt l) hlow
  have hKpos : 0 < K := by
    rcases Nat.eq_zero_or_pos K with h | h
    · have := hK.2
      rw [h] at this
      simp at this
      omega
    · exact h
  have hzl := lz_le l
  have hat := t58_at K l hK
  have hplain := t58_plain K l hK
  have hc256 := can256 l
  have hfw := fw_bnum l
  obtain ⟨N, hN⟩ : ∃ N, N = bnum l := ⟨_, rfl⟩
  obtain ⟨z, hz⟩ : ∃ z, z = lz l := ⟨_, rfl⟩
  obtain ⟨n, hn⟩ : ∃ n, n = l.length := ⟨_, rfl⟩
  have hsz : s.size = z + K := by rw [size_list hs, t58_len, hz]
  rw [← hN] at hK hN0 hat hc256 hfw hlow
  rw [← hz] at hzl hat hc256
  rw [← hn] at hl hKb hzl hc256 hfw
  obtain ⟨S, hS⟩ : ∃ S, S = z + K := ⟨_, rfl⟩
  rw [← hS] at hsz hat
  have hN58 : N < 58 ^ S := Nat.lt_of_lt_of_le hK.2 (Nat.pow_le_pow_right (by decide) (by omega))
  have hNS : N < 256 ^ S := Nat.lt_of_lt_of_le hN58 (pow58_le S)
  have hS1 : S ≤ 3000002 := by omega
  obtain ⟨M, bl, hM, hbl1, hbl4, hM1, hSM, hcase⟩ := words_split S (by omega)
  -- the runes
  have hlet : ∀ i, i < S → s.data.toList[i]? = some (btcA.getD (N / 58 ^ (S - 1 - i) % 58) 0) := fun i hi => by rw [hs]; exact hat i hi
  have hrn := runes_plain s (by rw [hs]; exact hplain) s.size 0 #[] (by omega)
  rw [List.drop_zero, Array.empty_append] at hrn
  have hrsz : (Conv.runesFrom s s.size 0 #[]).size = S := by rw [hrn, List.size_toArray, List.length_map, ← Lib.size_eq, hsz]
  have kc0 := run_runes_of_string (P := Tryz.prog) w 9 213 21 s Tryz.underlying9 Tryz.underlying213 Tryz.underlying21 (by rw [hrsz]; omega)
  rw [hrsz] at kc0
  obtain ⟨W1, hW1⟩ : ∃ W1, W1 = w.drew.alloc (.cells (Conv.runesFrom s s.size 0 #[] ++ Array.replicate (grownCap w S 0 21 - S) (.int .i32 0)) 21) := ⟨_, rfl⟩
  rw [← hW1] at kc0
  have hr1 : ∀ i, i < S → W1.cell? ⟨w.heap.size, i, none⟩ = some (.int .i32 ((btcA.getD (N / 58 ^ (S - 1 - i) % 58) 0).toNat : Int)) := fun i hi => by
    have hb : Blk W1 w.heap.size 21 (Conv.runesFrom s s.size 0 #[] ++ Array.replicate (grownCap w S 0 21 - S) (.int .i32 0)) := by rw [hW1]; exact Blk.new w.drew 21 _
    rw [hb.cell, Array.getElem?_append_left (by rw [hrsz]; exact hi), hrn, List.getElem?_toArray, List.getElem?_map, hlet i hi]
    rfl
  have hb1 : Below w.heap.size w W1 := by rw [hW1]; exact (below_drewN (Below.refl _ _) 1).alloc (Nat.le_refl _) _
  have hs1 : W1.heap.size = w.heap.size + 1 := by rw [hW1]; simp
  obtain ⟨capR, hcapR⟩ : ∃ c, c = grownCap w S 0 21 := ⟨_, rfl⟩
  rw [← hcapR] at kc0
  have hcR : S ≤ capR := by rw [hcapR]; exact grownCap_ge _ _ _ _
  -- the bytes and the words
  obtain ⟨T, hT⟩ : ∃ T, T = (S + 3) * 3 := ⟨_, rfl⟩
  obtain ⟨W2, km1, hrow1, hb2, hs2⟩ := makeRow (P := Tryz.prog) .u8 W1 22 5 1 T Tryz.underlying22 infoByte2 (by decide) (by omega)
  obtain ⟨W3, km2, hrow2, hb3, hs3⟩ := makeRow (P := Tryz.prog) .u32 W2 181 183 4 M Tryz.underlying181 infoWord (by decide) (by omega)
  have hgl := hg.lt
  have hB2 : Below w.heap.size w W2 := hb1.trans (hb2.mono (by omega))
  have hB3 : Below w.heap.size w W3 := hB2.trans (hb3.mono (by omega))
  have hg3 : Hid (Blk W3 g 192 (alphC (decT btcA 58) (fun j => (btcA.getD j 0).toNat))) := Lib.hid (hg.below hB3 hgl)
  have c49 : W2.cell? ⟨g, 128, none⟩ = some (.int .u8 49) := ((hg.below hB2 hgl).cell 128).trans (alphC_enc _ _ (j := 0) (by decide))
  have hr3 : Hid (∀ i, i < S → W3.cell? ⟨w.heap.size, i, none⟩ = some (.int .i32 ((btcA.getD (N / 58 ^ (S - 1 - i) % 58) 0).toNat : Int))) := Lib.hid fun i hi => by
    rw [hb3.cell (p := ⟨w.heap.size, i, none⟩) (by show w.heap.size < _; omega), hb2.cell (p := ⟨w.heap.size, i, none⟩) (by show w.heap.size < _; omega), hr1 i hi]
  have hw3 : Hid (RowI .u8 W3 W1.heap.size T (outB S N 0)) := Lib.hid ((hrow1.below hb3 (by omega)).ext (fun i _ => by unfold outB; rw [if_neg (Nat.not_lt_zero i)]))
  have ho3 : Hid (RowI .u32 W3 W2.heap.size M (wordsF M (pre58 S N 0))) := Lib.hid (hrow2.ext (fun i hi => by
    rw [pre58_zero hN58, wordsF_at M 0 i hi, Nat.zero_div]))
  obtain ⟨D1, hD1⟩ : ∃ D1, D1 = W1.heap.size := ⟨_, rfl⟩
  obtain ⟨D2, hD2⟩ : ∃ D2, D2 = W2.heap.size := ⟨_, rfl⟩
  obtain ⟨D0, hD0⟩ : ∃ D0, D0 = w.heap.size := ⟨_, rfl⟩
  rw [← hD1] at km1 hw3
  rw [← hD2] at km2 ho3
  rw [← hD0] at kc0 hr3
  have hD12 : Hid (D2 = D1 + 1 ∧ D1 = D0 + 1 ∧ g < D0 ∧ W3.heap.size = D2 + 1) := Lib.hid (by omega)
  have HB3 := Lib.hid hB3
  have HD0 := Lib.hid hD0
  have HM := Lib.hid hM
  have HCan := Lib.hid hK
  have HSM := Lib.hid hSM
  have HT := Lib.hid hT
  have HS := Lib.hid hS
  have HNS := Lib.hid hNS
  have HN58 := Lib.hid hN58
  have HC := Lib.hid hc256
  have HF := Lib.hid hfw
  have HNN := Lib.hid hn
  have HZ := Lib.hid hz
  have HBN := Lib.hid hN
  have e1 : ((S : Int) + 3) / 4 = (M : Int) := by omega
  have hM2 : M ≤ 1000001 := by omega
  have e2 : ((S : Int) + 3) * 3 = (T : Int) := by omega
  have hS0 : ((s.size : Int) == 0) = false := by rw [beq_eq_false_iff_ne]; omega
  have HK := Lib.hid (show K = S - z ∧ 0 < K from by omega)
  clear hs hK hg hlow hat hplain hc256 hfw hlet hrn hrsz hW1 hr1 hb1 hs1 hcapR hrow1 hb2 hs2 hrow2 hb3 hs3 hgl hB2 hB3 hsz hN58 hNS hM hSM hT hS hn hz hN hD1 hD2 hD0 hzl hKb hKpos
  go_enter Tryz.func139, Tryz.ntmps139
  go_upto_if 51 with (fail)
  go_cut [7, 14] from 50 to 55 (fun v7 v14 wx => ∃ zm : Nat, v7 = .int .u32 zm ∧ v14 = .int .i64 bl ∧ Hid (∀ x : Nat, x < 256 ^ bl → bits .and .u32 (x : Int) (zm : Int) = 0) ∧ wx = W2)
  case first =>
    rcases hcase with ⟨h4, rfl⟩ | ⟨h4, hbl⟩
    · have h4I : (S : Int) % 4 = 0 := by omega
      go_wp2
      go_meet
      exact ⟨0, rfl, rfl, Lib.hid (fun x hx => (mask_zero x).2.2.2 hx), rfl⟩
    · have h123 : S % 4 = 1 ∨ S % 4 = 2 ∨ S % 4 = 3 := by omega
      rcases h123 with h | h | h
      · rw [h] at hbl
        subst hbl
        have h4I : (S : Int) % 4 = 1 := by omega
        go_wp2
        go_meet
        exact ⟨4294967040, rfl, congrArg (Value.int .i64) (by omega), Lib.hid (fun x hx => (mask_zero x).1 hx), rfl⟩
      · rw [h] at hbl
        subst hbl
        have h4I : (S : Int) % 4 = 2 := by omega
        go_wp2
        go_meet
        exact ⟨4294901760, rfl, congrArg (Value.int .i64) (by omega), Lib.hid (fun x hx => (mask_zero x).2.1 hx), rfl⟩
      · rw [h] at hbl
        subst hbl
        have h4I : (S : Int) % 4 = 3 := by omega
        go_wp2
        go_meet
        exact ⟨4278190080, rfl, congrArg (Value.int .i64) (by omega), Lib.hid (fun x hx => (mask_zero x).2.2.1 hx), rfl⟩
  case rest =>
  obtain ⟨zm, rfl, rfl, hmask, hw1⟩ := hcut
  have hw2 := hw1.symm
  subst hw2
  rw [e1]
  clear hcase km1 kc0 c49 e1 e2
  go_upto_block 0 with (fail)
  go_cut [9, 17] from 58 to 72 (fun v9 v17 wx => v9 = .int .i64 z ∧ v17 = v17 ∧ wx = W3)
  case first =>
    go_wp2_with fail
    go_loop [9, 17] (fun v9 v17 => ∃ i : Nat, i ≤ z ∧ v9 = .int .i64 i ∧ v17 = .int .i64 i) (fun _ v17 => S - (intOf v17).toNat)
    case atStart => exact ⟨0, by omega, rfl, rfl⟩
    case round =>
      obtain ⟨i, hi, rfl, rfl⟩ := hrel
      have hiS : i < S := by have := HK.out; omega
      obtain ⟨y, hy⟩ : ∃ y, y = (btcA.getD (N / 58 ^ (S - 1 - i) % 58) 0).toNat := ⟨_, rfl⟩
      have c0 : W3.cell? ⟨D0, i, none⟩ = some (.int .i32 (y : Int)) := by rw [hr3.out i hiS, hy]
      have hyd := (btc_dec (N / 58 ^ (S - 1 - i) % 58) (Nat.mod_lt _ (by decide))).2.2
      rw [← hy] at hyd
      have hiI : (i : Int) < S := by omega
      by_cases hiz : i < z
      · have h0 : N / 58 ^ (S - 1 - i) = 0 := Nat.div_eq_of_lt (Nat.lt_of_lt_of_le HCan.out.2 (Nat.pow_le_pow_right (by decide) (by have := HK.out; omega)))
        obtain rfl : y = 49 := hyd.1 (by rw [h0])
        clear hyd hy h0
        go_wp2
        go_round
        case rel => exact ⟨i + 1, by omega, by go_num, by go_num⟩
        case measure => simp [intOf]; omega
      · obtain rfl : i = z := by omega
        have hyI : ((y : Int) == 49) = false := by
          rw [beq_eq_false_iff_ne]
          intro e
          have h0 := hyd.2 (by omega)
          have hKK := HK.out
          rw [show S - 1 - i = K - 1 from by omega] at h0
          have h1 := lt_of_digit_zero (B := 58) (k := K - 1) (n := N) (by decide) (by rw [show K - 1 + 1 = K from by omega]; exact HCan.out.2) h0
          rcases HCan.out.1 with h2 | h2
          · omega
          · exact absurd h1 (Nat.not_lt.2 h2)
        clear hyd hy
        go_wp2
        go_meet
        exact ⟨rfl, trivial, rfl⟩
  case rest =>
  obtain ⟨rfl, _, hw1⟩ := hcut
  have hw2 := hw1.symm
  subst hw2
  clear km2
  go_wp2_with fail
  go_loopw [75] (fun vi wr => ∃ r : Nat, r ≤ S ∧ vi = .int .i64 r ∧ Hid (RowI .u32 wr D2 M (wordsF M (pre58 S N r))) ∧ Hid (Below D2 W3 wr)) (fun vi _ => S - (intOf vi).toNat)
  case atStart => exact ⟨0, by omega, rfl, ho3, Below.refl _ _⟩
  case round =>
    clear ho3
    obtain ⟨r, hr, rfl, hrow, hbel⟩ := hrel
    by_cases hrS : r < S
    · obtain ⟨d, hd⟩ : ∃ d, d = N / 58 ^ (S - 1 - r) % 58 := ⟨_, rfl⟩
      have hd58 : d < 58 := by rw [hd]; exact Nat.mod_lt _ (by decide)
      have hdec := btc_dec d hd58
      obtain ⟨y, hy⟩ : ∃ y, y = (btcA.getD d 0).toNat := ⟨_, rfl⟩
      rw [← hy] at hdec
      have hD := hD12.out
      have c0 : wr.cell? ⟨D0, r, none⟩ = some (.int .i32 (y : Int)) := by
        rw [hbel.out.cell (p := ⟨D0, r, none⟩) (by show D0 < _; omega), hr3.out r hrS, hy, hd]
      have cdec : wr.cell? ⟨g, y, none⟩ = some (.int .i8 (d : Int)) := by
        rw [hbel.out.cell (p := ⟨g, y, none⟩) (by show g < _; omega), hg3.out.cell, alphC_dec _ _ hdec.2.1, hdec.1]
      have hy128 : y < 128 := hdec.2.1
      have hyI : (y : Int) < 128 := by omega
      have hyI2 : ((127 : Int) < y) = False := by simp; omega
      have hdI : ((d : Int) == -1) = false := by rw [beq_eq_false_iff_ne]; omega
      have hdw : (d : Int) % 4294967296 = d := by omega
      have hrI : (r : Int) < S := by omega
      obtain ⟨P, hP⟩ : ∃ P, P = pre58 S N r := ⟨_, rfl⟩
      obtain ⟨P2, hP2⟩ : ∃ P2, P2 = pre58 S N (r + 1) := ⟨_, rfl⟩
      have hsucc : P2 = 58 * P + d := by rw [hP2, hP, hd]; exact pre58_succ hrS
      have hP2S : P2 < 256 ^ S := Nat.lt_of_le_of_lt (by rw [hP2]; exact Nat.div_le_self _ _) HNS.out
      have hP2M : P2 < 4294967296 ^ M := all_words hP2S HSM.out hM1 hbl4
      have hfirst := first_word hP2S HSM.out
      have hPM : P < 4294967296 ^ M := by omega
      rw [← hP] at hrow
      have Hsucc := Lib.hid hsucc
      have HP2M := Lib.hid hP2M
      have HPM := Lib.hid hPM
      have HP2 := Lib.hid hP2
      have Hfirst := Lib.hid hfirst
      obtain ⟨w0, hw0⟩ : ∃ w0, w0 = wr := ⟨_, rfl⟩
      subst hw0
      clear hdec hd hy hD hP hP2 hsucc hP2S hP2M hfirst hPM
      go_wp2_with fail
      go_loopw [8, 20] (fun vc vj wq => ∃ t : Nat, t ≤ M ∧ vj = .int .i64 ((M : Int) - 1 - (t : Int)) ∧ vc = .int .u32 (car 4294967296 58 P d t : Nat) ∧ Hid (RowI .u32 wq D2 M (fun j => (mix 4294967296 M P P2 t).getD j 0)) ∧ Hid (Below D2 W3 wq)) (fun _ vj _ => (intOf vj + 1).toNat)
      case atStart =>
        refine ⟨0, Nat.zero_le _, congrArg (Value.int .i64) (by omega), by rw [car_start], ?_, hbel⟩
        rw [mix_start]
        exact hrow
      case round =>
        clear hrow hbel c0 cdec
        obtain ⟨t, ht, rfl, rfl, hrow, hbel⟩ := hrel
        have hcr := car_le 4294967296 58 P d t (by decide) hd58
        obtain ⟨cr, hcrE⟩ : ∃ cr, cr = car 4294967296 58 P d t := ⟨_, rfl⟩
        rw [← hcrE] at hcr
        rw [← hcrE]
        have HCR := Lib.hid hcrE
        clear hcrE
        by_cases htM : t < M
        · obtain ⟨jn, hjn⟩ : ∃ jn : Nat, jn = M - 1 - t := ⟨_, rfl⟩
          have hjI : (M : Int) - 1 - (t : Int) = (jn : Int) := by omega
          have hjM : (jn : Int) < M := by omega
          have hj0 : (0 : Int) ≤ jn := by omega
          rw [hjI]
          obtain ⟨x, hx⟩ : ∃ x, x = P / 4294967296 ^ t % 4294967296 := ⟨_, rfl⟩
          have hxl : x < 4294967296 := by rw [hx]; exact Nat.mod_lt _ (by decide)
          have cx : wr.cell? ⟨D2, jn, none⟩ = some (.int .u32 (x : Int)) := by
            rw [hrow.out.cell (by omega), hjn]
            show some (Value.int .u32 (((mix 4294967296 M P P2 t).getD (M - 1 - t) 0 : Nat) : Int)) = _
            rw [mix_getD 4294967296 M P P2 t htM, hx]
          have fx := hrow.out.frozen (i := jn) (by omega)
          obtain ⟨p, hp⟩ : ∃ p, p = (cr + 58 * x) % 4294967296 := ⟨_, rfl⟩
          obtain ⟨cr2, hcr2⟩ : ∃ c, c = (cr + 58 * x) / 4294967296 := ⟨_, rfl⟩
          have hpM : p = P2 / 4294967296 ^ t % 4294967296 := by rw [hp, HCR.out, hx, Hsucc.out]; exact car_digit 4294967296 58 P d t (by decide)
          have hcM : cr2 = car 4294967296 58 P d (t + 1) := by rw [hcr2, HCR.out, hx]; exact car_next 4294967296 58 P d t (by decide)
          have hpl : p < 4294967296 := by omega
          have hc58 : cr2 < 58 := by omega
          have hset := (hrow.out.set_ (i := jn) (by omega) p).ext (G := fun i => (mix 4294967296 M P P2 (t + 1)).getD i 0) (fun i _ => by
            have hl := mix_len 4294967296 M P P2 t (by omega)
            rw [show updF (fun j => (mix 4294967296 M P P2 t).getD j 0) jn p i = _ from updF_set _ _ _ _ (by omega), hjn, hpM, mix_set 4294967296 M P P2 t htM])
          have HST := Lib.hid hset
          have HB2 := Lib.hid (hbel.out.setCell (p := ⟨D2, jn, none⟩) (Nat.le_refl _) (.int .u32 (p : Int)))
          have HCM := Lib.hid hcM
          have HJ := Lib.hid hjn
          have hand1 : bits .and .u32 (((x : Int) * 58 + (cr : Int)) / 4294967296) 63 = (cr2 : Int) := by
            rw [show ((x : Int) * 58 + (cr : Int)) / 4294967296 = ((cr2 : Nat) : Int) from by omega]
            exact u32_and63 (by omega)
          have hand2 : bits .and .u64 ((x : Int) * 58 + (cr : Int)) 4294967295 % 4294967296 = (p : Int) := by
            rw [show (x : Int) * 58 + (cr : Int) = ((cr + 58 * x : Nat) : Int) from by omega, u64_low (by omega), ← hp]
            omega
          clear hset hpM hcM hx hjn hjI hrow hbel hp hcr2
          go_wp2
          go_roundw
          case rel => exact ⟨t + 1, by omega, congrArg (Value.int .i64) (by have := HJ.out; omega), by rw [← HCM.out], HST, HB2⟩
          case measure => simp [intOf]
        · obtain rfl : t = M := by omega
          have hc0 : cr = 0 := by
            rw [HCR.out, car_end 4294967296 58 P d t HPM.out, ← Hsucc.out]
            exact Nat.div_eq_of_lt HP2M.out
          subst hc0
          have hneg : ((t : Int) - 1 - (t : Int)) = -1 := by omega
          rw [hneg]
          have hrow2 : Hid (RowI .u32 wr D2 t (wordsF t P2)) := Lib.hid (hrow.out.ext (fun i _ => by
            rw [mix_end]
            rfl))
          have cw : wr.cell? ⟨D2, 0, none⟩ = some (.int .u32 ((wordsF t P2 0 : Nat) : Int)) := hrow2.out.cell (by omega)
          have hz0 : bits .and .u32 ((wordsF t P2 0 : Nat) : Int) (zm : Int) = 0 := hmask.out _ (by
            rw [wordsF_at t P2 0 (by omega), Nat.sub_zero]
            exact Hfirst.out)
          obtain ⟨x0, hx0⟩ : ∃ x0, x0 = wordsF t P2 0 := ⟨_, rfl⟩
          rw [← hx0] at cw hz0
          have hM0 : 0 < t := by omega
          have hMI : (0 : Int) < t := by omega
          rw [HP2.out] at hrow2
          clear hx0 hrow hneg
          go_wp2
          go_roundw
          case rel => exact ⟨r + 1, by omega, by go_num, hrow2, hbel⟩
          case measure => simp [intOf]; omega
    · obtain rfl : r = S := by omega
      rw [pre58_end] at hrow
      have hD := hD12.out
      have hw4 : Hid (RowI .u8 wr D1 T (outB r N 0)) := Lib.hid (hw3.out.below hbel.out (by omega))
      have hbel4 : Hid (Below D1 W3 wr) := Lib.hid (hbel.out.mono (by omega))
      have hrI : ((r : Int) < r) = False := by simp
      obtain ⟨w0, hw0⟩ : ∃ w0, w0 = wr := ⟨_, rfl⟩
      subst hw0
      have HDD := Lib.hid hD
      clear hw3 hbel hg3 hr3 hmask hD
      go_wp2_with fail
      go_loopw [14, 21, 22] (fun v14 v21 v22 wq => ∃ j cn b : Nat, j ≤ M ∧ v21 = .int .i64 j ∧ v22 = .int .i64 cn ∧ v14 = .int .i64 b ∧ 1 ≤ b ∧ b ≤ 4 ∧ Hid ((j = 0 ∧ cn = 0 ∧ b = bl) ∨ (1 ≤ j ∧ cn = bl + 4 * (j - 1) ∧ b = 4)) ∧ Hid (RowI .u8 wq D1 T (outB r N cn)) ∧ Hid (RowI .u32 wq D2 M (wordsF M N)) ∧ Hid (Below D1 W3 wq)) (fun _ v21 _ _ => M - (intOf v21).toNat)
      case atStart => exact ⟨0, 0, bl, by omega, rfl, rfl, rfl, hbl1, hbl4, Lib.hid (.inl ⟨rfl, rfl, rfl⟩), hw4, hrow, hbel4⟩
      case round =>
        clear hw4 hbel4 hrow
        obtain ⟨j, cn, b, hj, rfl, rfl, rfl, hb1, hb4, hcs, hby, hwd, hbel⟩ := hrel
        by_cases hjM : j < M
        · have hcb : Hid (cn + b = bl + 4 * j) := Lib.hid (by have := hcs.out; omega)
          obtain ⟨x, hx⟩ : ∃ x, x = wordsF M N j := ⟨_, rfl⟩
          have hx2 : x = N / 4294967296 ^ (M - 1 - j) % 4294967296 := by rw [hx]; exact wordsF_at M N j hjM
          have HX := Lib.hid hx2
          have HX1 := Lib.hid hx
          have hjI : (j : Int) < M := by omega
          obtain ⟨m0, hm0⟩ : ∃ m0 : Nat, m0 = 8 * (b - 1) := ⟨_, rfl⟩
          have hmI : ((b : Int) - 1) * 8 = (m0 : Int) := by omega
          have HM0 := Lib.hid hm0
          obtain ⟨w1, hw1⟩ : ∃ w1, w1 = wr := ⟨_, rfl⟩
          subst hw1
          clear hx hx2 hm0
          go_wp2_with fail
          go_loopw [22, 23] (fun v22 v23 wq => ∃ e mk : Nat, e ≤ b ∧ v22 = .int .i64 ((cn + e : Nat) : Int) ∧ v23 = .int .u8 mk ∧ Hid ((e < b ∧ mk = 8 * (b - 1 - e)) ∨ (e = b ∧ mk = 248)) ∧ Hid (RowI .u8 wq D1 T (outB r N (cn + e))) ∧ Hid (RowI .u32 wq D2 M (wordsF M N)) ∧ Hid (Below D1 W3 wq)) (fun v22 _ _ => r + 5 - (intOf v22).toNat)
          case atStart => exact ⟨0, m0, by omega, rfl, rfl, Lib.hid (.inl ⟨by omega, by have := HM0.out; omega⟩), hby, hwd, hbel⟩
          case round =>
            clear hby hwd hbel
            obtain ⟨e, mk, he, rfl, rfl, hmk, hby, hwd, hbel⟩ := hrel
            by_cases heb : e < b
            · obtain ⟨c, hc⟩ : ∃ c, c = b - 1 - e := ⟨_, rfl⟩
              have hmk8 : mk = 8 * c := by have := hmk.out; omega
              have hcI : cn + e < T := by have := hcb.out; have := HSM.out; have := HT.out; omega
              have hceI : ((cn + e : Nat) : Int) < T := by omega
              have cx : wr.cell? ⟨D2, j, none⟩ = some (.int .u32 (x : Int)) := by rw [hwd.out.cell hjM, HX1.out]
              have cb := hby.out.cell hcI
              have fb := hby.out.frozen hcI
              obtain ⟨y, hy⟩ : ∃ y, y = N / 256 ^ (r - 1 - (cn + e)) % 256 := ⟨_, rfl⟩
              have hyx : y = x / 256 ^ c % 256 := by
                rw [hy, HX.out, word_at N (M - 1 - j) c (by omega)]
                have h1 := hcb.out
                have h2 := HSM.out
                rw [show r - 1 - (cn + e) = 4 * (M - 1 - j) + c from by omega]
              have hset := hby.out.set_ hcI y
              have HST := Lib.hid (hset.ext (G := outB r N (cn + (e + 1))) (fun i _ => by
                unfold updF outB
                by_cases e1 : i = cn + e
                · rw [if_pos e1, if_pos (by omega), hy, e1]
                · rw [if_neg e1]
                  by_cases e2 : i < cn + e
                  · rw [if_pos e2, if_pos (by omega)]
                  · rw [if_neg e2, if_neg (by omega)]))
              have HWD := Lib.hid (hwd.out.far (p := ⟨D1, cn + e, none⟩) (by have := HDD.out; show D2 ≠ D1; omega) (.int .u8 (y : Int)))
              have HB := Lib.hid (hbel.out.setCell (p := ⟨D1, cn + e, none⟩) (Nat.le_refl _) (.int .u8 (y : Int)))
              have hxl : x < 4294967296 := by rw [HX.out]; exact Nat.mod_lt _ (by decide)
              have hcast : ((cn : Int) + (e : Int)) < T := by omega
              clear hset hby hwd hbel hmk hy
              have hmk24 : (mk : Int) ≤ 24 := by omega
              obtain ⟨ce, hce⟩ : ∃ ce, ce = cn + e := ⟨_, rfl⟩
              obtain ⟨mk2, hmk2⟩ : ∃ mk2 : Nat, mk2 = if c = 0 then 248 else mk - 8 := ⟨_, rfl⟩
              have hmkI : ((mk : Int) - 8) % 256 = (mk2 : Int) := by
                rw [hmk2]
                split <;> omega
              have hsh : (x : Int) / 2 ^ mk % 256 = (y : Int) := by
                rw [hyx, hmk8, show (256 : Nat) ^ c = 2 ^ (8 * c) from by rw [Nat.pow_mul]]
                push_cast
                rfl
              have hrel2 : Hid ((e + 1 < b ∧ mk2 = 8 * (b - 1 - (e + 1))) ∨ (e + 1 = b ∧ mk2 = 248)) := Lib.hid (by
                rw [hmk2]
                split <;> omega)
              have hceN : ce < r := by have h1 := hcb.out; have h2 := HSM.out; omega
              rw [← hce] at hceI cb fb HST HWD HB ⊢
              have HCE := Lib.hid hce
              clear hcast hcI hce hmk8 hc hmk2 hyx
              go_wp2
              go_roundw
              case rel => exact ⟨e + 1, mk2, by omega, congrArg (Value.int .i64) (by have := HCE.out; omega), congrArg (Value.int .u8) hmkI, hrel2, HST, HWD, HB⟩
              case measure => simp [intOf]; omega
            · obtain rfl : e = b := by omega
              obtain rfl : mk = 248 := by have := hmk.out; omega
              by_cases hj0 : j = 0
              · subst hj0
                have hcn0 : Hid (cn + e = bl + 4 * 0) := hcb
                go_wp2
                go_roundw
                case rel => exact ⟨1, cn + e, 4, by omega, by go_num, rfl, rfl, by omega, by omega, Lib.hid (.inr ⟨by omega, by have := hcn0.out; omega, rfl⟩), hby, hwd, hbel⟩
                case measure => simp [intOf]; omega
              · have hj0I : ((j : Int) == 0) = false := by rw [beq_eq_false_iff_ne]; omega
                go_wp2
                go_roundw
                case rel => exact ⟨j + 1, cn + e, e, by omega, by go_num, rfl, rfl, hb1, hb4, Lib.hid (.inr ⟨by omega, by have := hcb.out; omega, by have := hcs.out; omega⟩), hby, hwd, hbel⟩
                case measure => simp [intOf]; omega
        · obtain rfl : j = M := by omega
          have hcnr : cn = r := by have := hcs.out; have := HSM.out; omega
          subst hcnr
          have hjI : ((j : Int) < j) = False := by simp
          obtain ⟨q, hq⟩ : ∃ q, q = n - z := ⟨_, rfl⟩
          have hCq := HC.out
          rw [← hq] at hCq
          have hzn : z ≤ n := by rw [HZ.out, HNN.out]; exact lz_le l
          have hqK : q ≤ cn - z ∧ 0 < q := by
            refine ⟨?_, ?_⟩
            · have hKK := HK.out
              rw [← hKK.1]
              rcases Nat.lt_or_ge K q with h | h
              · exfalso
                rcases hCq.1 with h0 | h0
                · omega
                · have h1 := HCan.out.2
                  have h2 := pow58_le K
                  have h3 : 256 ^ K ≤ 256 ^ (q - 1) := Nat.pow_le_pow_right (by decide) (by omega)
                  omega
              · exact h
            · rcases Nat.eq_zero_or_pos q with h | h
              · rw [h] at hCq
                have := hCq.2
                simp at this
                omega
              · exact h
          obtain ⟨n0, hn0⟩ : ∃ n0, n0 = cn - q := ⟨_, rfl⟩
          have HQ := Lib.hid hq
          have HN0 := Lib.hid hn0
          have HCQ := Lib.hid hCq
          have hzS : z ≤ cn := by have := HK.out; omega
          have hTS : cn < T := by have := HT.out; omega
          obtain ⟨st, hst⟩ : ∃ st, st = n0 - z := ⟨_, rfl⟩
          have hstI : (n0 : Int) - (z : Int) = (st : Int) := by omega
          have HST0 := Lib.hid hst
          have hn0c : n0 + q = cn := by have := hqK.1; omega
          have hT2 : T ≤ 9000015 := by have := HT.out; omega
          have HNC := Lib.hid hn0c
          have hn0le : n0 ≤ cn := by omega
          clear hq hn0 hCq hst hcs hn0c
          go_wp2_with fail
          go_loop [162] (fun v => ∃ i : Nat, i ≤ n0 ∧ v = .int .i64 i) (fun v => T - (intOf v).toNat)
          case atStart => exact ⟨0, by omega, rfl⟩
          case round =>
            obtain ⟨i, hi, rfl⟩ := hrel
            have hiT : i < T := by omega
            have hiI : (i : Int) < T := by omega
            obtain ⟨y, hy⟩ : ∃ y, y = outB cn N cn i := ⟨_, rfl⟩
            have cy : wr.cell? ⟨D1, i, none⟩ = some (.int .u8 (y : Int)) := by rw [hby.out.cell hiT, hy]
            have hy2 : y = N / 256 ^ (cn - 1 - i) % 256 := by rw [hy]; unfold outB; rw [if_pos (by have := HN0.out; omega)]
            by_cases hin : i < n0
            · have h0 : N / 256 ^ (cn - 1 - i) = 0 := Nat.div_eq_of_lt (Nat.lt_of_lt_of_le HCQ.out.2 (Nat.pow_le_pow_right (by decide) (by have := HN0.out; omega)))
              obtain rfl : y = 0 := by rw [hy2, h0]
              clear hy hy2 h0
              go_wp2
              go_round
              case rel => exact ⟨i + 1, by omega, by go_num⟩
              case measure => simp [intOf]; omega
            · obtain rfl : i = n0 := by omega
              have hy0 : 0 < y := by
                rcases Nat.eq_zero_or_pos y with h | h
                · exfalso
                  rw [h, show cn - 1 - i = q - 1 from by have := HN0.out; omega] at hy2
                  have h1 := lt_of_digit_zero (B := 256) (k := q - 1) (n := N) (by decide) (by rw [show q - 1 + 1 = q from by omega]; exact HCQ.out.2) hy2.symm
                  rcases HCQ.out.1 with h2 | h2
                  · omega
                  · exact absurd h1 (Nat.not_lt.2 h2)
                · exact h
              have hyI : (0 : Int) < y := by omega
              have hs0 : (0 : Int) ≤ st := by omega
              have hs1 : (st : Int) ≤ cn := by have := HST0.out; omega
              have hs2 : (cn : Int) ≤ T := by omega
              have hRd : Hid (RdAt wr D1 st l) := Lib.hid (fun k x hx => by
                have hk : k < n := by rw [HNN.out]; exact (List.getElem?_eq_some_iff.1 hx).1
                have e0 := HST0.out
                have e1 := HQ.out
                have e2 := HNC.out
                rw [hby.out.cell (by omega)]
                unfold outB
                rw [if_pos (by omega)]
                have h1 := fw_get 256 n N k hk
                rw [HF.out, List.getElem?_map, hx] at h1
                rw [show cn - 1 - (st + k) = n - 1 - k from by omega]
                exact congrArg (fun v : Nat => some (Value.int .u8 (v : Int))) (Option.some.inj h1).symm)
              have hnst : Hid (cn - st = n ∧ n ≤ T - st) := Lib.hid (by have := HST0.out; have := HQ.out; have := HNC.out; omega)
              clear hy hy2
              go_wp2
              go_ret2
              have h1 := hnst.out
              refine ⟨.slice (some ⟨D1, st, none⟩) (cn - st) (T - st), rfl, ⟨D1, st, T - st, by rw [h1.1, HNN.out], ?_, by rw [← HNN.out]; exact h1.2, by unfold maxLen; omega, hRd.out⟩, HB3.out.trans (hbel.out.mono ?_)⟩
              · have h2 := hbel.out.size
                have h3 := HDD.out
                omega
              · have h3 := HDD.out
                have h4 := HD0.out
                omega
end Go.Proofs.YtilngifollpoeaaGreatFmt
