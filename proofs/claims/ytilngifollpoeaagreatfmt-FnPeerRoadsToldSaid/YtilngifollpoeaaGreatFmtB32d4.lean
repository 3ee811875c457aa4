/- base32: decode, of letters that Encode wrote, in place; where the bytes' number leaves 4 by 5. -/
import Derived.Test.YtilngifollpoeaaGreatFmtB32dh
namespace Go.Proofs.YtilngifollpoeaaGreatFmt
open Go.RowKit
set_option linter.unusedSimpArgs false
set_option linter.unusedVariables false

set_option maxHeartbeats 40000000 in
set_option maxRecDepth 100000 in
theorem decode_r4 (s : ByteArray) (a l : List UInt8) (f : Nat → Int) (g D m c L : Nat) (w : World) (ha : a.length = 32)
    (hg : Blk w g 203 (encC s f (-1))) (hgD : g < D) (hDw : D < w.heap.size) (hL : l.length = L) (hL1 : L ≤ 1099511627776)
    (hD : Row w D m (elF a l)) (hm : m = (L * 8 + 4) / 5) (hmc : m ≤ c)
    (hr : L % 5 = 4) (hf : ∀ q, q < 32 → (a.getD q 0).toNat < 128 ∧ f (a.getD q 0).toNat = q) :
    Calls Tryz.prog 165 #[.pointer (some ⟨g, 0, none⟩), .slice (some ⟨D, 0, none⟩) m c, .slice (some ⟨D, 0, none⟩) m c] w fun e w' => e = .returned (.tuple #[.int .i64 L, .bool false, .nilIface]) ∧ Row w' D m (outF a l L) ∧ Below D w w' := by
  have HG := Lib.hid hg
  have HD := Lib.hid hD
  have HF := Lib.hid hf
  have Hm := Lib.hid hm
  have Hr := Lib.hid hr
  clear hg hD hf hm hr
  go_enter Tryz.func165, Tryz.ntmps165
  go_wp2_with fail
  go_loopw [1, 2, 6, 7] (fun vd vs vn ve wr => ∃ k dO dn dc sO sn sc : Nat, vd = .slice (some ⟨D, dO, none⟩) dn dc ∧ vs = .slice (some ⟨D, sO, none⟩) sn sc ∧ vn = .int .i64 ((min (5 * k) L : Nat) : Int) ∧ ve = .bool false ∧ sn = m - 8 * k ∧ sn ≤ sc ∧ dn ≤ dc ∧ dc ≤ c ∧ sc ≤ c ∧ (8 * k < m → sO = 8 * k ∧ dO = 5 * k ∧ dn = m - 5 * k) ∧ Hid (Row wr D m (outF a l (min (5 * k) L))) ∧ Hid (Below D w wr))
    (fun _ vs _ _ _ => sLen vs)
  case atStart => exact ⟨0, 0, m, c, 0, m, c, rfl, rfl, by simp, rfl, by omega, hmc, hmc, by omega, by omega, fun _ => ⟨rfl, rfl, rfl⟩, by
    rw [show min (5 * 0) L = 0 from by omega]
    exact Lib.hid (HD.out.ext (G := outF a l 0) (fun i _ => by unfold outF; rw [if_neg (by omega)])), Below.refl _ _⟩
  case round =>
    obtain ⟨k, dO, dn, dc, sO, sn, sc, rfl, rfl, rfl, rfl, hsn, hsc, hdc, hdcc, hscc, hpos, hrow, hbel⟩ := hrel
    have Hsn := Lib.hid hsn
    clear hsn
    obtain ⟨w0, hw0⟩ : ∃ w0, w0 = wr := ⟨_, rfl⟩
    subst hw0
    have hm := Hm.out
    by_cases hM : 8 * k < m
    · obtain ⟨rfl, rfl, hdn⟩ := hpos hM
      have h5L : 5 * k < L := by omega
      have hmin : min (5 * k) L = 5 * k := by omega
      rw [hmin] at hrow
      rw [hmin]
      have hsnn : 0 < sn := by have := Hsn.out; omega
      have Hdn := Lib.hid hdn
      clear hpos hmin hm hdn
      go_wp2
      go_loopw [2, 6, 7, 11, 12] (fun vs vn ve vl vj wq => ∃ j sO' sn' sc' : Nat, vn = .int .i64 ((5 * k : Nat) : Int) ∧ ve = .bool false ∧ vl = .int .i64 8 ∧ vs = .slice (some ⟨D, sO', none⟩) sn' sc' ∧ vj = .int .i64 j ∧ j ≤ 8 ∧ j ≤ sn ∧ Hid (sn' = sn - j) ∧ sn' ≤ sc' ∧ sc' ≤ c ∧ (j < sn → sO' = 8 * k + j) ∧ Hid (Row wq w0.heap.size 8 (fun i => if i < j then Qf l (8 * k + i) else 0)) ∧ Hid (Below w0.heap.size w0 wq))
        (fun _ _ _ _ vj _ => 8 - (intOf vj).toNat)
      case atStart => exact ⟨0, 8 * k, sn, sc, by simp, rfl, rfl, rfl, rfl, by omega, by omega, Lib.hid (by omega), hsc, hscc, fun _ => by omega, Lib.hid ((Row.zero8 _ _).ext (fun i _ => by rw [if_neg (Nat.not_lt_zero i)])), (Below.refl _ _).alloc (Nat.le_refl _) _⟩
      case round =>
        obtain ⟨j, sO', sn', sc', rfl, rfl, rfl, rfl, rfl, hj8, hjs, hsn', hsc', hscc', hpos', hdb, hbel2⟩ := hrel
        by_cases hj : j < 8
        · by_cases hjn : j < sn
          · obtain rfl : sO' = 8 * k + j := hpos' hjn
            have hDl : D < w0.heap.size := by have := hbel.out.size; omega
            have hsnm := Hsn.out
            have hsn'' := hsn'.out
            -- the letter
            obtain ⟨y, hy⟩ : ∃ y, y = elF a l (8 * k + j) := ⟨_, rfl⟩
            obtain ⟨q, hq⟩ : ∃ q, q = Qf l (8 * k + j) := ⟨_, rfl⟩
            have hq32 : q < 32 := by rw [hq]; exact Qf_lt _ _
            have hyq : y = (a.getD q 0).toNat := by rw [hy, hq]; rfl
            have hF := HF.out q hq32
            rw [← hyq] at hF
            have cy : wr.cell? ⟨D, 8 * k + j, none⟩ = some (.int .u8 (y : Int)) := by
              rw [hbel2.out.cell (p := ⟨D, _, none⟩) hDl, hrow.out.cell (by omega)]
              unfold outF
              rw [if_neg (by omega), hy]
            have cf : wr.cell? ⟨g, 1 + y, none⟩ = some (.int .u8 (q : Int)) := by
              rw [hbel2.out.cell (p := ⟨g, _, none⟩) (by show g < _; omega), hbel.out.cell (p := ⟨g, _, none⟩) hgD, HG.out.cell, encC_at _ _ _ (by omega), hF.2]
            have cP : wr.cell? ⟨g, 257, none⟩ = some (.int .i32 (-1)) := by
              rw [hbel2.out.cell (p := ⟨g, _, none⟩) (by show g < _; omega), hbel.out.cell (p := ⟨g, _, none⟩) hgD, HG.out.cell, encC_pad]
            have cd := hdb.out.cell hj
            have fd := hdb.out.frozen hj
            have hset := hdb.out.set_ hj q
            have HS := Lib.hid (hset.ext (G := fun i => if i < j + 1 then Qf l (8 * k + i) else 0) (fun i _ => by
              unfold updF
              by_cases e : i = j
              · subst e
                rw [if_pos rfl, if_pos (by omega), hq]
              · rw [if_neg e]
                show (if i < j then _ else _) = _
                by_cases h : i < j
                · rw [if_pos h, if_pos (by omega)]
                · rw [if_neg h, if_neg (by omega)]))
            have HB2 := Lib.hid (hbel2.out.setCell (p := ⟨w0.heap.size, j, none⟩) (Nat.le_refl _) (.int .u8 (q : Int)))
            have hyI : (y : Int) < 128 := by omega
            have hyJ : ((y : Int) == 255) = false := by rw [beq_eq_false_iff_ne]; omega
            have hqJ : ((q : Int) == 255) = false := by rw [beq_eq_false_iff_ne]; omega
            have hqI : (q : Int) < 32 := by omega
            have hyK : (y : Int) < 256 := by omega
            have hsn1 : 0 < sn' := by omega
            have hjI : (j : Int) < 8 := by omega
            clear hsnm hsn'' hset hdb hbel2 hq hy hyq hF hpos'
            go_wp2
            obtain ⟨sO', hs, hs'⟩ : ∃ sO' : Nat, (if sc' = 1 then (some ⟨D, 8 * k + j, none⟩ : Option Addr) else some ⟨D, 8 * k + j + 1, none⟩) = some ⟨D, sO', none⟩ ∧ (j + 1 < sn → sO' = 8 * k + (j + 1)) := by
              have := hsn'.out
              by_cases h : sc' = 1
              · exact ⟨8 * k + j, by rw [if_pos h], by omega⟩
              · exact ⟨8 * k + j + 1, by rw [if_neg h], by omega⟩
            rw [hs]
            go_roundw
            case rel => exact ⟨j + 1, sO', sn' - 1, sc' - 1, rfl, rfl, rfl, rfl, by go_num, by omega, by omega, Lib.hid (by have := hsn'.out; omega), by omega, by omega, hs', HS, HB2⟩
            case measure => simp [intOf]; omega
          · -- the end of the letters: the last bytes
            have hsn0 : sn' = 0 := by have := hsn'.out; omega
            subst hsn0
            have hm := Hm.out
            have hsnm := Hsn.out
            have hj4 : j = 7 ∧ L = 5 * k + 4 := by have := Hr.out; omega
            obtain rfl : j = sn := by omega
            have HE5 := Lib.hid (show 8 * k + j = m by omega)
            clear hm hsnm hjn hsn' hpos'
            obtain ⟨rfl, hLk⟩ := hj4
            obtain ⟨x0, hx0⟩ : ∃ x, x = (l.getD (5 * k) 0).toNat := ⟨_, rfl⟩
            obtain ⟨x1, hx1⟩ : ∃ x, x = (l.getD (5 * k + 1) 0).toNat := ⟨_, rfl⟩
            obtain ⟨x2, hx2⟩ : ∃ x, x = (l.getD (5 * k + 2) 0).toNat := ⟨_, rfl⟩
            obtain ⟨x3, hx3⟩ : ∃ x, x = (l.getD (5 * k + 3) 0).toNat := ⟨_, rfl⟩
            have hx0l : x0 < 256 := by rw [hx0]; exact UInt8.toNat_lt _
            have hx1l : x1 < 256 := by rw [hx1]; exact UInt8.toNat_lt _
            have hx2l : x2 < 256 := by rw [hx2]; exact UInt8.toNat_lt _
            have hx3l : x3 < 256 := by rw [hx3]; exact UInt8.toNat_lt _
            have hQ := Qf7 (l := l) (k := k) (by omega) hx0 hx1 hx2 hx3
            obtain ⟨hq0, hq1, hq2, hq3, hq4, hq5, hq6⟩ := hQ
            have c0 := hdb.out.cell (i := 0) (by omega)
            rw [if_pos (by omega), Nat.add_zero, hq0] at c0
            have c1 := hdb.out.cell (i := 1) (by omega)
            rw [if_pos (by omega), hq1] at c1
            have c2 := hdb.out.cell (i := 2) (by omega)
            rw [if_pos (by omega), hq2] at c2
            have c3 := hdb.out.cell (i := 3) (by omega)
            rw [if_pos (by omega), hq3] at c3
            have c4 := hdb.out.cell (i := 4) (by omega)
            rw [if_pos (by omega), hq4] at c4
            have c5 := hdb.out.cell (i := 5) (by omega)
            rw [if_pos (by omega), hq5] at c5
            have c6 := hdb.out.cell (i := 6) (by omega)
            rw [if_pos (by omega), hq6] at c6
            obtain ⟨q0, hqe0⟩ : ∃ q, q = x0 / 8 := ⟨_, rfl⟩
            rw [← hqe0] at c0
            obtain ⟨q1, hqe1⟩ : ∃ q, q = x0 % 8 * 4 + x1 / 64 := ⟨_, rfl⟩
            rw [← hqe1] at c1
            obtain ⟨q2, hqe2⟩ : ∃ q, q = x1 / 2 % 32 := ⟨_, rfl⟩
            rw [← hqe2] at c2
            obtain ⟨q3, hqe3⟩ : ∃ q, q = x1 % 2 * 16 + x2 / 16 := ⟨_, rfl⟩
            rw [← hqe3] at c3
            obtain ⟨q4, hqe4⟩ : ∃ q, q = x2 % 16 * 2 + x3 / 128 := ⟨_, rfl⟩
            rw [← hqe4] at c4
            obtain ⟨q5, hqe5⟩ : ∃ q, q = x3 / 4 % 32 := ⟨_, rfl⟩
            rw [← hqe5] at c5
            obtain ⟨q6, hqe6⟩ : ∃ q, q = x3 % 4 * 8 := ⟨_, rfl⟩
            rw [← hqe6] at c6
            have hv0 : bits .or .u8 ((q0 : Int) * 8) ((q1 : Int) / 4) = (x0 : Int) := by simp (disch := omega) only [u8ho1, u8ho2, u8ho3, u8ho4, u8ho5, u8ho6, u8ho7]; omega
            have hv1 : bits .or .u8 (bits .or .u8 ((q1 : Int) * 64 % 256) ((q2 : Int) * 2)) ((q3 : Int) / 16) = (x1 : Int) := by simp (disch := omega) only [u8ho1, u8ho2, u8ho3, u8ho4, u8ho5, u8ho6, u8ho7]; omega
            have hv2 : bits .or .u8 ((q3 : Int) * 16 % 256) ((q4 : Int) / 2) = (x2 : Int) := by simp (disch := omega) only [u8ho1, u8ho2, u8ho3, u8ho4, u8ho5, u8ho6, u8ho7]; omega
            have hv3 : bits .or .u8 (bits .or .u8 ((q4 : Int) * 128 % 256) ((q5 : Int) * 4)) ((q6 : Int) / 8) = (x3 : Int) := by simp (disch := omega) only [u8ho1, u8ho2, u8ho3, u8ho4, u8ho5, u8ho6, u8ho7]; omega
            have hq0l : q0 < 32 := by omega
            have hq1l : q1 < 32 := by omega
            have hq2l : q2 < 32 := by omega
            have hq3l : q3 < 32 := by omega
            have hq4l : q4 < 32 := by omega
            have hq5l : q5 < 32 := by omega
            have hq6l : q6 < 32 := by omega
            clear hqe0 hq0 hqe1 hq1 hqe2 hq2 hqe3 hq3 hqe4 hq4 hqe5 hq5 hqe6 hq6
            have hDl : D < w0.heap.size := by have := hbel.out.size; omega
            have cP : wr.cell? ⟨g, 257, none⟩ = some (.int .i32 (-1)) := by rw [hbel2.out.cell (p := ⟨g, _, none⟩) (by show g < _; omega), hbel.out.cell (p := ⟨g, _, none⟩) hgD, HG.out.cell, encC_pad]
            have hrow2 := hrow.out.below hbel2.out hDl
            have cd0 := hrow2.cell (i := 5 * k) (by have := HE5.out; omega)
            have fd0 := hrow2.frozen (i := 5 * k) (by have := HE5.out; omega)
            have cd1 := hrow2.cell (i := 5 * k + 1) (by have := HE5.out; omega)
            have fd1 := hrow2.frozen (i := 5 * k + 1) (by have := HE5.out; omega)
            have cd2 := hrow2.cell (i := 5 * k + 2) (by have := HE5.out; omega)
            have fd2 := hrow2.frozen (i := 5 * k + 2) (by have := HE5.out; omega)
            have cd3 := hrow2.cell (i := 5 * k + 3) (by have := HE5.out; omega)
            have fd3 := hrow2.frozen (i := 5 * k + 3) (by have := HE5.out; omega)
            have hdn : ∀ t : Nat, t < 4 → (t : Int) < dn := by intro t ht; have := Hdn.out; have := HE5.out; omega
            have hdn0 : (0 : Int) < dn := hdn 0 (by omega)
            have hdn1 : (1 : Int) < dn := hdn 1 (by omega)
            have hdn2 : (2 : Int) < dn := hdn 2 (by omega)
            have hdn3 : (3 : Int) < dn := hdn 3 (by omega)
            have hdnn : 0 < dn := by omega
            clear hdn
            have hgg : (D = w0.heap.size) = False := by simp; omega
            have hgh : (w0.heap.size = D) = False := by simp; omega
            have hD := ((((hrow2.set_ (i := 5 * k + 3) (by have := HE5.out; omega) x3).set_ (i := 5 * k + 2) (by have := HE5.out; omega) x2).set_ (i := 5 * k + 1) (by have := HE5.out; omega) x1).set_ (i := 5 * k) (by have := HE5.out; omega) x0)
            have HD2 := Lib.hid (hD.ext (G := outF a l (5 * k + 4)) (fun i _ => by
              simp only [updF, outF]
              by_cases e0 : i = 5 * k
              · rw [if_pos e0, if_pos (by omega), hx0, e0]
              rw [if_neg e0]
              by_cases e1 : i = 5 * k + 1
              · rw [if_pos e1, if_pos (by omega), hx1, e1]
              rw [if_neg e1]
              by_cases e2 : i = 5 * k + 2
              · rw [if_pos e2, if_pos (by omega), hx2, e2]
              rw [if_neg e2]
              by_cases e3 : i = 5 * k + 3
              · rw [if_pos e3, if_pos (by omega), hx3, e3]
              rw [if_neg e3]
              by_cases h : i < 5 * k
              · rw [if_pos h, if_pos (by omega)]
              · rw [if_neg h, if_neg (by omega)]))
            have HB3 := Lib.hid (((((hbel.out.trans (hbel2.out.mono (by omega))).setCell (p := ⟨D, 5 * k + 3, none⟩) (Nat.le_refl _) (.int .u8 (x3 : Int))).setCell (p := ⟨D, 5 * k + 2, none⟩) (Nat.le_refl _) (.int .u8 (x2 : Int))).setCell (p := ⟨D, 5 * k + 1, none⟩) (Nat.le_refl _) (.int .u8 (x1 : Int))).setCell (p := ⟨D, 5 * k, none⟩) (Nat.le_refl _) (.int .u8 (x0 : Int)))
            clear hD hrow2 hrow hbel hdb hx0 hx1 hx2 hx3
            have hmn : min (5 * (k + 1)) L = 5 * k + 4 := by omega
            have Hmn := Lib.hid hmn
            clear hmn
            have h5 : 5 < dn := by have := Hdn.out; have := HE5.out; omega
            · have h5I : (5 : Int) < dn := by omega
              go_wp2
              go_roundw
              case rel => exact ⟨k + 1, _, _, _, _, _, _, rfl, rfl, by rw [Hmn.out]; exact congrArg (Value.int .i64) (by omega), rfl, by have := HE5.out; omega, by omega, by omega, by omega, by omega, fun h => absurd h (by have := HE5.out; omega), by rw [Hmn.out]; exact HD2, HB3⟩
              case measure => simp [sLen]
        · -- eight letters: five bytes
          obtain rfl : j = 8 := by omega
          have HE5 := Lib.hid (show 8 * k + 8 ≤ m by have := Hsn.out; omega)
          have hLk : Hid (5 * k + 5 ≤ L) := Lib.hid (by have := Hm.out; have := Hsn.out; omega)
          have HP := Lib.hid hpos'
          clear hj hpos'
          obtain ⟨x0, hx0⟩ : ∃ x, x = (l.getD (5 * k) 0).toNat := ⟨_, rfl⟩
          obtain ⟨x1, hx1⟩ : ∃ x, x = (l.getD (5 * k + 1) 0).toNat := ⟨_, rfl⟩
          obtain ⟨x2, hx2⟩ : ∃ x, x = (l.getD (5 * k + 2) 0).toNat := ⟨_, rfl⟩
          obtain ⟨x3, hx3⟩ : ∃ x, x = (l.getD (5 * k + 3) 0).toNat := ⟨_, rfl⟩
          obtain ⟨x4, hx4⟩ : ∃ x, x = (l.getD (5 * k + 4) 0).toNat := ⟨_, rfl⟩
          have hx0l : x0 < 256 := by rw [hx0]; exact UInt8.toNat_lt _
          have hx1l : x1 < 256 := by rw [hx1]; exact UInt8.toNat_lt _
          have hx2l : x2 < 256 := by rw [hx2]; exact UInt8.toNat_lt _
          have hx3l : x3 < 256 := by rw [hx3]; exact UInt8.toNat_lt _
          have hx4l : x4 < 256 := by rw [hx4]; exact UInt8.toNat_lt _
          have hQ := Qf8 (l := l) (k := k) (by have := hLk.out; omega) hx0 hx1 hx2 hx3 hx4
          obtain ⟨hq0, hq1, hq2, hq3, hq4, hq5, hq6, hq7⟩ := hQ
          have c0 := hdb.out.cell (i := 0) (by omega)
          rw [if_pos (by omega), Nat.add_zero, hq0] at c0
          have c1 := hdb.out.cell (i := 1) (by omega)
          rw [if_pos (by omega), hq1] at c1
          have c2 := hdb.out.cell (i := 2) (by omega)
          rw [if_pos (by omega), hq2] at c2
          have c3 := hdb.out.cell (i := 3) (by omega)
          rw [if_pos (by omega), hq3] at c3
          have c4 := hdb.out.cell (i := 4) (by omega)
          rw [if_pos (by omega), hq4] at c4
          have c5 := hdb.out.cell (i := 5) (by omega)
          rw [if_pos (by omega), hq5] at c5
          have c6 := hdb.out.cell (i := 6) (by omega)
          rw [if_pos (by omega), hq6] at c6
          have c7 := hdb.out.cell (i := 7) (by omega)
          rw [if_pos (by omega), hq7] at c7
          obtain ⟨q0, hqe0⟩ : ∃ q, q = x0 / 8 := ⟨_, rfl⟩
          rw [← hqe0] at c0
          obtain ⟨q1, hqe1⟩ : ∃ q, q = x0 % 8 * 4 + x1 / 64 := ⟨_, rfl⟩
          rw [← hqe1] at c1
          obtain ⟨q2, hqe2⟩ : ∃ q, q = x1 / 2 % 32 := ⟨_, rfl⟩
          rw [← hqe2] at c2
          obtain ⟨q3, hqe3⟩ : ∃ q, q = x1 % 2 * 16 + x2 / 16 := ⟨_, rfl⟩
          rw [← hqe3] at c3
          obtain ⟨q4, hqe4⟩ : ∃ q, q = x2 % 16 * 2 + x3 / 128 := ⟨_, rfl⟩
          rw [← hqe4] at c4
          obtain ⟨q5, hqe5⟩ : ∃ q, q = x3 / 4 % 32 := ⟨_, rfl⟩
          rw [← hqe5] at c5
          obtain ⟨q6, hqe6⟩ : ∃ q, q = x3 % 4 * 8 + x4 / 32 := ⟨_, rfl⟩
          rw [← hqe6] at c6
          obtain ⟨q7, hqe7⟩ : ∃ q, q = x4 % 32 := ⟨_, rfl⟩
          rw [← hqe7] at c7
          have hv0 : bits .or .u8 ((q0 : Int) * 8) ((q1 : Int) / 4) = (x0 : Int) := by simp (disch := omega) only [u8ho1, u8ho2, u8ho3, u8ho4, u8ho5, u8ho6, u8ho7]; omega
          have hv1 : bits .or .u8 (bits .or .u8 ((q1 : Int) * 64 % 256) ((q2 : Int) * 2)) ((q3 : Int) / 16) = (x1 : Int) := by simp (disch := omega) only [u8ho1, u8ho2, u8ho3, u8ho4, u8ho5, u8ho6, u8ho7]; omega
          have hv2 : bits .or .u8 ((q3 : Int) * 16 % 256) ((q4 : Int) / 2) = (x2 : Int) := by simp (disch := omega) only [u8ho1, u8ho2, u8ho3, u8ho4, u8ho5, u8ho6, u8ho7]; omega
          have hv3 : bits .or .u8 (bits .or .u8 ((q4 : Int) * 128 % 256) ((q5 : Int) * 4)) ((q6 : Int) / 8) = (x3 : Int) := by simp (disch := omega) only [u8ho1, u8ho2, u8ho3, u8ho4, u8ho5, u8ho6, u8ho7]; omega
          have hv4 : bits .or .u8 ((q6 : Int) * 32 % 256) (q7 : Int) = (x4 : Int) := by simp (disch := omega) only [u8ho1, u8ho2, u8ho3, u8ho4, u8ho5, u8ho6, u8ho7]; omega
          have hq0l : q0 < 32 := by omega
          have hq1l : q1 < 32 := by omega
          have hq2l : q2 < 32 := by omega
          have hq3l : q3 < 32 := by omega
          have hq4l : q4 < 32 := by omega
          have hq5l : q5 < 32 := by omega
          have hq6l : q6 < 32 := by omega
          have hq7l : q7 < 32 := by omega
          clear hqe0 hq0 hqe1 hq1 hqe2 hq2 hqe3 hq3 hqe4 hq4 hqe5 hq5 hqe6 hq6 hqe7 hq7
          have hDl : D < w0.heap.size := by have := hbel.out.size; omega
          have cP : wr.cell? ⟨g, 257, none⟩ = some (.int .i32 (-1)) := by rw [hbel2.out.cell (p := ⟨g, _, none⟩) (by show g < _; omega), hbel.out.cell (p := ⟨g, _, none⟩) hgD, HG.out.cell, encC_pad]
          have hrow2 := hrow.out.below hbel2.out hDl
          have cd0 := hrow2.cell (i := 5 * k) (by have := HE5.out; omega)
          have fd0 := hrow2.frozen (i := 5 * k) (by have := HE5.out; omega)
          have cd1 := hrow2.cell (i := 5 * k + 1) (by have := HE5.out; omega)
          have fd1 := hrow2.frozen (i := 5 * k + 1) (by have := HE5.out; omega)
          have cd2 := hrow2.cell (i := 5 * k + 2) (by have := HE5.out; omega)
          have fd2 := hrow2.frozen (i := 5 * k + 2) (by have := HE5.out; omega)
          have cd3 := hrow2.cell (i := 5 * k + 3) (by have := HE5.out; omega)
          have fd3 := hrow2.frozen (i := 5 * k + 3) (by have := HE5.out; omega)
          have cd4 := hrow2.cell (i := 5 * k + 4) (by have := HE5.out; omega)
          have fd4 := hrow2.frozen (i := 5 * k + 4) (by have := HE5.out; omega)
          have hdn : ∀ t : Nat, t < 5 → (t : Int) < dn := by intro t ht; have := Hdn.out; have := HE5.out; omega
          have hdn0 : (0 : Int) < dn := hdn 0 (by omega)
          have hdn1 : (1 : Int) < dn := hdn 1 (by omega)
          have hdn2 : (2 : Int) < dn := hdn 2 (by omega)
          have hdn3 : (3 : Int) < dn := hdn 3 (by omega)
          have hdn4 : (4 : Int) < dn := hdn 4 (by omega)
          have hdnn : 0 < dn := by omega
          clear hdn
          have hgg : (D = w0.heap.size) = False := by simp; omega
          have hgh : (w0.heap.size = D) = False := by simp; omega
          have hD := (((((hrow2.set_ (i := 5 * k + 4) (by have := HE5.out; omega) x4).set_ (i := 5 * k + 3) (by have := HE5.out; omega) x3).set_ (i := 5 * k + 2) (by have := HE5.out; omega) x2).set_ (i := 5 * k + 1) (by have := HE5.out; omega) x1).set_ (i := 5 * k) (by have := HE5.out; omega) x0)
          have HD2 := Lib.hid (hD.ext (G := outF a l (5 * k + 5)) (fun i _ => by
            simp only [updF, outF]
            by_cases e0 : i = 5 * k
            · rw [if_pos e0, if_pos (by omega), hx0, e0]
            rw [if_neg e0]
            by_cases e1 : i = 5 * k + 1
            · rw [if_pos e1, if_pos (by omega), hx1, e1]
            rw [if_neg e1]
            by_cases e2 : i = 5 * k + 2
            · rw [if_pos e2, if_pos (by omega), hx2, e2]
            rw [if_neg e2]
            by_cases e3 : i = 5 * k + 3
            · rw [if_pos e3, if_pos (by omega), hx3, e3]
            rw [if_neg e3]
            by_cases e4 : i = 5 * k + 4
            · rw [if_pos e4, if_pos (by omega), hx4, e4]
            rw [if_neg e4]
            by_cases h : i < 5 * k
            · rw [if_pos h, if_pos (by omega)]
            · rw [if_neg h, if_neg (by omega)]))
          have HB3 := Lib.hid ((((((hbel.out.trans (hbel2.out.mono (by omega))).setCell (p := ⟨D, 5 * k + 4, none⟩) (Nat.le_refl _) (.int .u8 (x4 : Int))).setCell (p := ⟨D, 5 * k + 3, none⟩) (Nat.le_refl _) (.int .u8 (x3 : Int))).setCell (p := ⟨D, 5 * k + 2, none⟩) (Nat.le_refl _) (.int .u8 (x2 : Int))).setCell (p := ⟨D, 5 * k + 1, none⟩) (Nat.le_refl _) (.int .u8 (x1 : Int))).setCell (p := ⟨D, 5 * k, none⟩) (Nat.le_refl _) (.int .u8 (x0 : Int)))
          clear hD hrow2 hrow hbel hdb hx0 hx1 hx2 hx3 hx4
          have hmn : min (5 * (k + 1)) L = 5 * k + 5 := by have := hLk.out; omega
          have Hmn := Lib.hid hmn
          clear hmn
          have h5I : (5 : Int) < dn := by have := Hdn.out; have := HE5.out; omega
          go_wp2
          go_roundw
          case rel => exact ⟨k + 1, _, _, _, _, _, _, rfl, rfl, by rw [Hmn.out]; exact congrArg (Value.int .i64) (by omega), rfl, by have := hsn'.out; have := Hsn.out; omega, by omega, by omega, by omega, by omega, fun h => ⟨by rw [HP.out (by have := Hsn.out; omega)]; omega, by omega, by have := Hdn.out; omega⟩, by rw [Hmn.out]; exact HD2, HB3⟩
          case measure => have := hsn'.out; simp [sLen]; omega
    · have h0 : sn = 0 := by have := Hsn.out; omega
      subst h0
      have hmin : min (5 * k) L = L := by omega
      rw [hmin] at hrow
      rw [hmin]
      clear hm hmin
      go_wp2
      go_ret3
      exact ⟨rfl, hrow.out, hbel.out⟩
end Go.Proofs.YtilngifollpoeaaGreatFmt
