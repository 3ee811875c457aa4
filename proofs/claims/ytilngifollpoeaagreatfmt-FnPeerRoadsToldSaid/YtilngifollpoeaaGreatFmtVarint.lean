/- The varint readers of govarint and gocid, at bytes that open with a varint: of a number below 2^35 in govarint, of a number below 128 in gocid. -/
import Derived.Test.YtilngifollpoeaaGreatFmtProg
import Derived.Test.YtilngifollpoeaaGreatFmtBase
import Derived.Lib.VarintBits
import Derived.Laws.Closers25b
import Derived.WalkSpells
import Derived.WalkLawsBesides
namespace Go.Proofs.YtilngifollpoeaaGreatFmt
open Go.RowKit

/-- What FromUvarint hands back: the number, how many bytes it has, no error; the world as it was. -/
def UvEnds (x : Nat) (w : World) (e : Ending) (w' : World) : Prop := e = .returned (.tuple #[.int .u64 x, .int .i64 ((Lib.uvarint x).length : Nat), .nilIface]) ∧ w = w'

/-- Behind k rounds: y is what is still to be read, acc what was. -/
def UvAt (x k y acc : Nat) : Prop := (Lib.uvarint x).length = k + (Lib.uvarint y).length ∧ x = acc + y * 2 ^ (7 * k) ∧ (k = 0 ∨ 1 ≤ y) ∧ ∀ rest : List UInt8, (Lib.uvarint x ++ rest).drop k = Lib.uvarint y ++ rest

theorem UvAt.start (x : Nat) : UvAt x 0 x 0 := ⟨by simp, by simp, .inl rfl, fun _ => rfl⟩
theorem UvAt.next {x k y acc : Nat} (h : UvAt x k y acc) (h1 : 128 ≤ y) : UvAt x (k + 1) (y / 128) (acc + y % 128 * 2 ^ (7 * k)) := by
  obtain ⟨a, b, c, d⟩ := h
  have hb := Lib.uvarint_big h1
  refine ⟨by rw [a, hb, List.length_cons]; omega, ?_, .inr (by omega), fun rest => ?_⟩
  · rw [b, show 7 * (k + 1) = 7 * k + 7 from by omega, Nat.pow_add, Nat.add_assoc]
    congr 1
    generalize 2 ^ (7 * k) = p
    have e : y = 128 * (y / 128) + y % 128 := by omega
    conv => lhs; rw [e]
    rw [Nat.add_mul, show (2 : Nat) ^ 7 = 128 from rfl, Nat.mul_comm p 128, ← Nat.mul_assoc, Nat.mul_comm (y / 128) 128]
    omega
  · have h2 := d rest
    rw [hb, List.cons_append] at h2
    have h3 : (Lib.uvarint x ++ rest).drop (k + 1) = ((Lib.uvarint x ++ rest).drop k).drop 1 := by rw [List.drop_drop]
    rw [h3, h2]
    rfl
theorem UvAt.cell {x k y acc : Nat} (h : UvAt x k y acc) {w : World} {b o : Nat} {rest : List UInt8} (hr : RdAt w b o (Lib.uvarint x ++ rest)) :
    w.cell? ⟨b, o + k, none⟩ = some (.int .u8 ((if y < 128 then y else y % 128 + 128 : Nat) : Int)) := by
  have hd := h.2.2.2 rest
  have h0 : (Lib.uvarint x ++ rest)[k]? = (Lib.uvarint y ++ rest)[0]? := by rw [← hd, List.getElem?_drop, Nat.add_zero]
  by_cases hy : y < 128
  · rw [Lib.uvarint_small (x := y) hy] at h0
    have := hr k _ h0
    rw [if_pos hy]
    rw [this, Lib.toUInt8_toNat (by omega)]
  · rw [Lib.uvarint_big (x := y) (by omega)] at h0
    have := hr k _ h0
    rw [if_neg hy]
    rw [this, Lib.toUInt8_toNat (by omega)]
theorem UvAt.last {x k y acc : Nat} (h : UvAt x k y acc) (hy : y < 128) : x = acc + y * 2 ^ (7 * k) ∧ (Lib.uvarint x).length = k + 1 := by
  refine ⟨h.2.1, ?_⟩
  rw [h.1, Lib.uvarint_small hy]
  rfl

set_option maxHeartbeats 4000000 in
set_option maxRecDepth 100000 in
theorem FromUvarint_any (b o n c x : Nat) (rest : List UInt8) (w : World) (hx : x < 2 ^ 35) (hl : (Lib.uvarint x).length + rest.length = n) (hn : n ≤ 9223372036854775807) (hr : RdAt w b o (Lib.uvarint x ++ rest)) :
    Calls Tryz.prog 64 #[.slice (some ⟨b, o, none⟩) n c] w (UvEnds x w) := by
  have hpos := Lib.uvarint_pos x
  go_enter Tryz.func64, Tryz.ntmps64
  go_wp2
  go_loop [5, 6, 11] (fun vx vs vi => ∃ k y acc : Nat, vi = .int .i64 k ∧ vs = .int .u64 ((7 * k : Nat) : Int) ∧ vx = .int .u64 acc ∧ k ≤ 4 ∧ acc < 2 ^ (7 * k) ∧ y < 2 ^ (35 - 7 * k) ∧ Hid (UvAt x k y acc))
    (fun _ _ vi => 5 - (intOf vi).toNat)
  case atStart => exact ⟨0, x, 0, rfl, rfl, rfl, by omega, by decide, hx, UvAt.start x⟩
  case round =>
    obtain ⟨k, y, acc, rfl, rfl, rfl, hk4, hacc, hy35, hat⟩ := hrel
    have hyp := Lib.uvarint_pos y
    have hkn : k < n := by have := hat.out.1; omega
    have hc := hat.out.cell hr
    have hks : k = 0 ∨ k = 1 ∨ k = 2 ∨ k = 3 ∨ k = 4 := by omega
    by_cases hy : y < 128
    · rw [if_pos hy] at hc
      have hlast := hat.out.last hy
      have hy1 := hat.out.2.2.1
      clear hr hat hl
      rcases hks with rfl | rfl | rfl | rfl | rfl
      · -- the last byte, 0 behind
        have hacc' : acc < 1 := by simpa using hacc
        obtain ⟨hy3, hy4⟩ := hlast
        simp only [Nat.reduceMul, Nat.reducePow] at hy3
        have hx1 : (x : Int) = ((acc + y * 1 : Nat) : Int) := by omega
        have hx2 : (((Lib.uvarint x).length : Nat) : Int) = 1 := by omega
        have hfin : ∀ v0 v1 : Int, v0 = ((acc + y * 1 : Nat) : Int) → v1 = 1 → UvEnds x w (.returned (.tuple #[.int .u64 v0, .int .i64 v1, .nilIface])) w := fun v0 v1 e0 e1 => ⟨by rw [e0, e1, hx1, hx2], rfl⟩
        have HF := Lib.hid hfin
        clear hfin hx1 hx2 hy3 hy4 hacc hx hy35 hyp hpos
        obtain rfl : acc = 0 := by omega
        clear hy1 hacc'
        rcases Nat.eq_zero_or_pos y with h0 | h0
        · subst h0
          have hc0 : w.cell? ⟨b, o, none⟩ = some (.int .u8 0) := hc
          have hor0 : bits .or .u64 0 0 = 0 := by decide
          clear hc
          go_wp2
          go_ret3
          exact HF.out _ _ (by simp) rfl
        · have hc0 : w.cell? ⟨b, o, none⟩ = some (.int .u8 y) := hc
          have hz : ((y : Int) == 0) = false := by rw [beq_eq_false_iff_ne]; omega
          clear hc
          have hor : bits .or .u64 0 (y : Int) = (y : Int) := by
            rw [u64_orv0 _ _ (by omega) (by omega) (by omega) (by omega) (by omega)]
            omega
          go_wp2
          go_ret3
          exact HF.out _ _ (by simp) rfl
      · -- the last byte, 1 behind
        have hacc' : acc < 128 := by simpa using hacc
        obtain ⟨hy3, hy4⟩ := hlast
        simp only [Nat.reduceMul, Nat.reducePow] at hy3
        have hx1 : (x : Int) = ((acc + y * 128 : Nat) : Int) := by omega
        have hx2 : (((Lib.uvarint x).length : Nat) : Int) = 2 := by omega
        have hfin : ∀ v0 v1 : Int, v0 = ((acc + y * 128 : Nat) : Int) → v1 = 2 → UvEnds x w (.returned (.tuple #[.int .u64 v0, .int .i64 v1, .nilIface])) w := fun v0 v1 e0 e1 => ⟨by rw [e0, e1, hx1, hx2], rfl⟩
        have HF := Lib.hid hfin
        clear hfin hx1 hx2 hy3 hy4 hacc hx hy35 hyp hpos
        have hy2 : 1 ≤ y := by omega
        have hz : ((y : Int) == 0) = false := by rw [beq_eq_false_iff_ne]; omega
        have hor : bits .or .u64 (acc : Int) ((y : Int) * 128) = ((acc + y * 128 : Nat) : Int) := by
          rw [u64_orv7 _ _ (by omega) (by omega) (by omega) (by omega) (by omega)]
          omega
        clear hy1
        go_wp2
        all_goals (go_ret3; exact HF.out _ _ (by simp) (by simp))
      · -- the last byte, 2 behind
        have hacc' : acc < 16384 := by simpa using hacc
        obtain ⟨hy3, hy4⟩ := hlast
        simp only [Nat.reduceMul, Nat.reducePow] at hy3
        have hx1 : (x : Int) = ((acc + y * 16384 : Nat) : Int) := by omega
        have hx2 : (((Lib.uvarint x).length : Nat) : Int) = 3 := by omega
        have hfin : ∀ v0 v1 : Int, v0 = ((acc + y * 16384 : Nat) : Int) → v1 = 3 → UvEnds x w (.returned (.tuple #[.int .u64 v0, .int .i64 v1, .nilIface])) w := fun v0 v1 e0 e1 => ⟨by rw [e0, e1, hx1, hx2], rfl⟩
        have HF := Lib.hid hfin
        clear hfin hx1 hx2 hy3 hy4 hacc hx hy35 hyp hpos
        have hy2 : 1 ≤ y := by omega
        have hz : ((y : Int) == 0) = false := by rw [beq_eq_false_iff_ne]; omega
        have hor : bits .or .u64 (acc : Int) ((y : Int) * 16384) = ((acc + y * 16384 : Nat) : Int) := by
          rw [u64_orv14 _ _ (by omega) (by omega) (by omega) (by omega) (by omega)]
          omega
        clear hy1
        go_wp2
        all_goals (go_ret3; exact HF.out _ _ (by simp) (by simp))
      · -- the last byte, 3 behind
        have hacc' : acc < 2097152 := by simpa using hacc
        obtain ⟨hy3, hy4⟩ := hlast
        simp only [Nat.reduceMul, Nat.reducePow] at hy3
        have hx1 : (x : Int) = ((acc + y * 2097152 : Nat) : Int) := by omega
        have hx2 : (((Lib.uvarint x).length : Nat) : Int) = 4 := by omega
        have hfin : ∀ v0 v1 : Int, v0 = ((acc + y * 2097152 : Nat) : Int) → v1 = 4 → UvEnds x w (.returned (.tuple #[.int .u64 v0, .int .i64 v1, .nilIface])) w := fun v0 v1 e0 e1 => ⟨by rw [e0, e1, hx1, hx2], rfl⟩
        have HF := Lib.hid hfin
        clear hfin hx1 hx2 hy3 hy4 hacc hx hy35 hyp hpos
        have hy2 : 1 ≤ y := by omega
        have hz : ((y : Int) == 0) = false := by rw [beq_eq_false_iff_ne]; omega
        have hor : bits .or .u64 (acc : Int) ((y : Int) * 2097152) = ((acc + y * 2097152 : Nat) : Int) := by
          rw [u64_orv21 _ _ (by omega) (by omega) (by omega) (by omega) (by omega)]
          omega
        clear hy1
        go_wp2
        all_goals (go_ret3; exact HF.out _ _ (by simp) (by simp))
      · -- the last byte, 4 behind
        have hacc' : acc < 268435456 := by simpa using hacc
        obtain ⟨hy3, hy4⟩ := hlast
        simp only [Nat.reduceMul, Nat.reducePow] at hy3
        have hx1 : (x : Int) = ((acc + y * 268435456 : Nat) : Int) := by omega
        have hx2 : (((Lib.uvarint x).length : Nat) : Int) = 5 := by omega
        have hfin : ∀ v0 v1 : Int, v0 = ((acc + y * 268435456 : Nat) : Int) → v1 = 5 → UvEnds x w (.returned (.tuple #[.int .u64 v0, .int .i64 v1, .nilIface])) w := fun v0 v1 e0 e1 => ⟨by rw [e0, e1, hx1, hx2], rfl⟩
        have HF := Lib.hid hfin
        clear hfin hx1 hx2 hy3 hy4 hacc hx hy35 hyp hpos
        have hy2 : 1 ≤ y := by omega
        have hz : ((y : Int) == 0) = false := by rw [beq_eq_false_iff_ne]; omega
        have hor : bits .or .u64 (acc : Int) ((y : Int) * 268435456) = ((acc + y * 268435456 : Nat) : Int) := by
          rw [u64_orv28 _ _ (by omega) (by omega) (by omega) (by omega) (by omega)]
          omega
        clear hy1
        go_wp2
        all_goals (go_ret3; exact HF.out _ _ (by simp) (by simp))
    · rw [if_neg hy] at hc
      have hnext := hat.out.next (by omega)
      generalize hm : y % 128 + 128 = m at hc
      have hm1 : 128 ≤ m := by omega
      have hm2 : m < 256 := by omega
      have hm3 : m % 128 = y % 128 := by omega
      rw [← hm3] at hnext
      have Hnext := Lib.hid hnext
      have hyq : y / 128 < 2 ^ (35 - 7 * (k + 1)) ∨ k = 4 := by
        rcases hks with rfl | rfl | rfl | rfl | rfl
        · left; show y / 128 < 2 ^ 28; have : (2 : Nat) ^ 28 = 268435456 := by decide
          have h2 : y < 34359738368 := hy35
          omega
        · left; show y / 128 < 2 ^ 21; have : (2 : Nat) ^ 21 = 2097152 := by decide
          have h2 : y < 268435456 := hy35
          omega
        · left; show y / 128 < 2 ^ 14; have : (2 : Nat) ^ 14 = 16384 := by decide
          have h2 : y < 2097152 := hy35
          omega
        · left; show y / 128 < 2 ^ 7; have : (2 : Nat) ^ 7 = 128 := by decide
          have h2 : y < 16384 := hy35
          omega
        · right; rfl
      have hk3 : k ≤ 3 := by
        rcases hks with rfl | rfl | rfl | rfl | rfl
        · omega
        · omega
        · omega
        · omega
        · have h2 : y < 128 := hy35
          omega
      have hyr : y / 128 < 2 ^ (35 - 7 * (k + 1)) := by omega
      have HY := Lib.hid hyr
      clear hr hat hl hnext hm hm3 hyq hyr hx hyp hpos hy35 hks
      have hks : k = 0 ∨ k = 1 ∨ k = 2 ∨ k = 3 := by omega
      rcases hks with rfl | rfl | rfl | rfl
      · -- a byte with more behind it, 0 behind
        have hacc' : acc < 1 := by simpa using hacc
        clear hacc
        obtain rfl : acc = 0 := by omega
        have hc0 : w.cell? ⟨b, o, none⟩ = some (.int .u8 m) := hc
        have hv : bits .or .u64 0 (IntKind.u64.wrap (IntKind.u64.wrap (bits .and .u8 (m : Int) 127))) = ((m % 128 : Nat) : Int) := by
          simp (disch := omega) only [u8_and127, u64_wrap_id, u64_orv0]
          omega
        go_wp2
        refine ⟨⟨1, y / 128, m % 128, rfl, rfl, (by first | rfl | (congr 1; omega)), by omega, ?_, HY.out, ?_⟩, by simp [intOf]⟩
        · show m % 128 < 128
          omega
        · have h := Hnext.out
          show UvAt _ _ _ _
          simpa using h
      · -- a byte with more behind it, 1 behind
        have hacc' : acc < 128 := by simpa using hacc
        clear hacc
        have hv : bits .or .u64 (acc : Int) (IntKind.u64.wrap (IntKind.u64.wrap (bits .and .u8 (m : Int) 127) * 128)) = ((acc + m % 128 * 128 : Nat) : Int) := by
          simp (disch := omega) only [u8_and127, u64_wrap_id, u64_orv7]
          omega
        go_wp2
        refine ⟨⟨2, y / 128, acc + m % 128 * 128, rfl, rfl, (by first | rfl | (congr 1; omega)), by omega, ?_, HY.out, ?_⟩, by simp [intOf]⟩
        · show acc + m % 128 * 128 < 16384
          omega
        · have h := Hnext.out
          show UvAt _ _ _ _
          simpa using h
      · -- a byte with more behind it, 2 behind
        have hacc' : acc < 16384 := by simpa using hacc
        clear hacc
        have hv : bits .or .u64 (acc : Int) (IntKind.u64.wrap (IntKind.u64.wrap (bits .and .u8 (m : Int) 127) * 16384)) = ((acc + m % 128 * 16384 : Nat) : Int) := by
          simp (disch := omega) only [u8_and127, u64_wrap_id, u64_orv14]
          omega
        go_wp2
        refine ⟨⟨3, y / 128, acc + m % 128 * 16384, rfl, rfl, (by first | rfl | (congr 1; omega)), by omega, ?_, HY.out, ?_⟩, by simp [intOf]⟩
        · show acc + m % 128 * 16384 < 2097152
          omega
        · have h := Hnext.out
          show UvAt _ _ _ _
          simpa using h
      · -- a byte with more behind it, 3 behind
        have hacc' : acc < 2097152 := by simpa using hacc
        clear hacc
        have hv : bits .or .u64 (acc : Int) (IntKind.u64.wrap (IntKind.u64.wrap (bits .and .u8 (m : Int) 127) * 2097152)) = ((acc + m % 128 * 2097152 : Nat) : Int) := by
          simp (disch := omega) only [u8_and127, u64_wrap_id, u64_orv21]
          omega
        go_wp2
        refine ⟨⟨4, y / 128, acc + m % 128 * 2097152, rfl, rfl, (by first | rfl | (congr 1; omega)), by omega, ?_, HY.out, ?_⟩, by simp [intOf]⟩
        · show acc + m % 128 * 2097152 < 268435456
          omega
        · have h := Hnext.out
          show UvAt _ _ _ _
          simpa using h

end Go.Proofs.YtilngifollpoeaaGreatFmt
