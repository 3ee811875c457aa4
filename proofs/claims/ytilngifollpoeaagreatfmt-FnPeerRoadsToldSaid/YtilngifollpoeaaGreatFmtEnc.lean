/- multihash.Encode of up to 127 bytes under a number below 128: the number, the length, the bytes. -/
import Derived.Test.YtilngifollpoeaaGreatFmtOwn
import Derived.Test.YtilngifollpoeaaGreatFmtB32y
import Derived.Test.YtilngifollpoeaaGreatFmtShelf
import Derived.Laws.CopyRow
namespace Go.Proofs.YtilngifollpoeaaGreatFmt
open Go.RowKit

theorem bitLen_small : ∀ x : Fin 128, Lib.bitLen x.val ≤ 7 := by decide

set_option maxHeartbeats 1000000 in
set_option maxRecDepth 100000 in
theorem USize_small (x : Nat) (w : World) (hx : x < 128) :
    Calls Tryz.prog 69 #[.int .u64 x] w fun e w' => e = .returned (.int .i64 1) ∧ w' = w := by
  have C := Lib.hid (Tryz.bits_Len64 (x : Int) w (by omega) (by omega))
  have hL := bitLen_small ⟨x, hx⟩
  rw [Int.toNat_natCast] at C
  obtain ⟨L, hLe⟩ : ∃ L, L = Lib.bitLen x := ⟨_, rfl⟩
  rw [← hLe] at C
  have hL7 : L ≤ 7 := by rw [hLe]; exact hL
  clear hL hLe
  have h8 : L = 0 ∨ L = 1 ∨ L = 2 ∨ L = 3 ∨ L = 4 ∨ L = 5 ∨ L = 6 ∨ L = 7 := by omega
  go_enter Tryz.func69, Tryz.ntmps69
  go_wp2_with fail
  refine C.out.mono ?_
  rintro e w1 ⟨rfl, rfl⟩
  rcases h8 with rfl | rfl | rfl | rfl | rfl | rfl | rfl | rfl
  all_goals
    go_wp2_with fail
    go_ret
    exact ⟨rfl, rfl⟩

set_option maxHeartbeats 1000000 in
set_option maxRecDepth 100000 in
theorem binPut_small (x g o n c : Nat) (v0 : Value) (w : World) (hx : x < 128) (hn : 1 ≤ n) (h0 : w.cell? ⟨g, o, none⟩ = some v0) (f0 : w.frozen? ⟨g, o, none⟩ = false) :
    Calls Tryz.prog 117 #[.slice (some ⟨g, o, none⟩) n c, .int .u64 x] w fun e w' => e = .returned (.int .i64 1) ∧ w' = w.setCell ⟨g, o, none⟩ (.int .u8 x) := by
  have hxI : ¬ (128 : Int) ≤ x := by omega
  have hx6 : (x : Int) % 256 = x := by omega
  have hn0 : 0 < n := hn
  go_enter Tryz.func117, Tryz.ntmps117
  go_wp2_with fail
  refine wp_loop_rounds 1 ?_
  rw [rounds_succ]
  go_wp2_with fail
  go_ret
  exact ⟨rfl, rfl⟩

set_option maxHeartbeats 1000000 in
set_option maxRecDepth 100000 in
theorem PutU_small (x g o n c : Nat) (v0 : Value) (w : World) (hx : x < 128) (hn : 1 ≤ n) (h0 : w.cell? ⟨g, o, none⟩ = some v0) (f0 : w.frozen? ⟨g, o, none⟩ = false) :
    Calls Tryz.prog 71 #[.slice (some ⟨g, o, none⟩) n c, .int .u64 x] w fun e w' => e = .returned (.int .i64 1) ∧ w' = w.setCell ⟨g, o, none⟩ (.int .u8 x) := by
  have C := Lib.hid (binPut_small x g o n c v0 w hx hn h0 f0)
  go_enter Tryz.func71, Tryz.ntmps71
  go_wp2_with fail
  refine C.out.mono ?_
  rintro e w1 ⟨rfl, rfl⟩
  go_wp2_with fail
  go_ret
  exact ⟨rfl, rfl⟩

set_option maxHeartbeats 4000000 in
set_option maxRecDepth 100000 in
theorem mhEncode_any (v : Value) (code n : Nat) (l : List UInt8) (w : World) (hcode : code < 128) (hn : l.length = n) (hn1 : n < 128) (h0 : 0 < n) (hr : Rd w w.heap.size v l) :
    Calls Tryz.prog 97 #[v, .int .u64 code] w (NewBE (code.toUInt8 :: n.toUInt8 :: l) w) := by
  obtain ⟨b, o, c, rfl, hb, hlc, hcm, hat⟩ := hr
  rw [hn] at hlc ⊢
  obtain ⟨T, hT⟩ : ∃ T, T = 2 + n := ⟨_, rfl⟩
  have eT : (2 : Int) + (n : Int) = (T : Int) := by omega
  have km : (Instr.makeSlice 22 (.int .i64 T) (.int .i64 T)).run Tryz.prog w = .ok (.slice (some ⟨w.heap.size, 0, none⟩) T T) (w.alloc (.cells (cellsF T (fun _ => 0)) 5)) := by
    obtain ⟨i0, hi, hi3⟩ := Option.map_eq_some_iff.1 infoByte2
    obtain ⟨hz0, hz12⟩ := Prod.mk.inj hi3
    obtain ⟨hz1, hz2⟩ := Prod.mk.inj hz12
    have h := run_make (P := Tryz.prog) w 22 5 i0 (.int .u8 0) Tryz.underlying22 hi hz0 .i64 .i64 T T (by omega) (Int.le_refl _) (by rw [hz2]; omega) (by omega)
    rw [hz1, Int.toNat_natCast, madeBytes] at h
    exact h
  obtain ⟨W1, hW1⟩ : ∃ W1, W1 = w.alloc (.cells (cellsF T (fun _ => 0)) 5) := ⟨_, rfl⟩
  obtain ⟨D, hD⟩ : ∃ D, D = w.heap.size := ⟨_, rfl⟩
  rw [← hW1, ← hD] at km
  have hk1 : Blk W1 D 5 (cellsF T (fun _ => 0)) := by rw [hW1, hD]; exact Blk.new w _ _
  have hk2 := hk1.set_ 0 (.int .u8 (code : Int))
  have hk3 := hk2.set_ 1 (.int .u8 (n : Int))
  have hB1 : Below D w W1 := by rw [hW1, hD]; exact (Below.refl _ _).alloc (Nat.le_refl _) _
  have hB3 : Below D w ((W1.setCell ⟨D, 0, none⟩ (.int .u8 (code : Int))).setCell ⟨D, 1, none⟩ (.int .u8 (n : Int))) := (hB1.setCell (p := ⟨D, 0, none⟩) (Nat.le_refl _) _).setCell (p := ⟨D, 1, none⟩) (Nat.le_refl _) _
  obtain ⟨cur, hcur⟩ : ∃ cur, cur = ((cellsF T (fun _ => 0)).setIfInBounds 0 (.int .u8 (code : Int))).setIfInBounds 1 (.int .u8 (n : Int)) := ⟨_, rfl⟩
  rw [← hcur] at hk3
  have hcs : cur.size = T := by rw [hcur]; simp [cellsF_size]
  have hc0 : cur[0]? = some (.int .u8 (code : Int)) := by
    rw [hcur, Array.getElem?_setIfInBounds_ne (by decide), Array.getElem?_setIfInBounds_self_of_lt (by rw [cellsF_size]; omega)]
  have hc1 : cur[1]? = some (.int .u8 (n : Int)) := by
    rw [hcur, Array.getElem?_setIfInBounds_self_of_lt (by rw [Array.size_setIfInBounds, cellsF_size]; omega)]
  have kcp : ∀ ty, (Builtin.copy_ #[22, 22] ty #[.slice (some ⟨D, 2, none⟩) (T - 2) (T - 2), .slice (some ⟨b, o, none⟩) n c]).run Tryz.prog ((W1.setCell ⟨D, 0, none⟩ (.int .u8 (code : Int))).setCell ⟨D, 1, none⟩ (.int .u8 (n : Int))) = _ := fun ty =>
    run_copy_row (P := Tryz.prog) _ 22 22 ty 5 D 2 (T - 2) (T - 2) ⟨b, o, none⟩ n c cur 5 (Lib.byteCells l) Tryz.underlying22 (by kernel_rfl) hk3 (by rw [Lib.byteCells_length, hn]; show n = min n (T - 2); omega) (fun j u hj => by
      obtain ⟨y, hy, rfl⟩ := bcells_at l j u hj
      exact (hB3.cell (p := (⟨b, o, none⟩ : Addr).add j) (by rw [add_block]; show b < D; omega)).trans (hat.adds j y hy)) (by rw [Lib.byteCells_length, hn, hcs]; omega) (bcells_one l)
  rw [Lib.byteCells_length, hn] at kcp
  obtain ⟨fin, hfin⟩ : ∃ fin, fin = (cur.toList.take 2 ++ Lib.byteCells l ++ cur.toList.drop (2 + n)).toArray := ⟨_, rfl⟩
  rw [← hfin] at kcp
  have hRd : Hid (RdAt (((W1.setCell ⟨D, 0, none⟩ (.int .u8 (code : Int))).setCell ⟨D, 1, none⟩ (.int .u8 (n : Int))).setRow D fin) D 0 (code.toUInt8 :: n.toUInt8 :: l)) := Lib.hid (by
    have hf : Blk (((W1.setCell ⟨D, 0, none⟩ (.int .u8 (code : Int))).setCell ⟨D, 1, none⟩ (.int .u8 (n : Int))).setRow D fin) D 5 fin := setRow_heap _ D cur fin 5 (0, 0) hk3
    have ht : cur.toList.take 2 = [.int .u8 (code : Int), .int .u8 (n : Int)] := by
      apply List.ext_getElem?
      intro i
      match i with
      | 0 => simpa using hc0
      | 1 => simpa using hc1
      | i + 2 =>
        rw [List.getElem?_take, if_neg (by omega)]
        rfl
    refine hf.rd 0 _ (fun j x hx => ?_)
    rw [Nat.zero_add, hfin, List.getElem?_toArray, ht]
    match j with
    | 0 =>
      cases hx
      show some (Value.int .u8 (code : Int)) = some (Value.int .u8 ((code.toUInt8.toNat : Nat) : Int))
      rw [show code.toUInt8.toNat = code from by simp [Nat.toUInt8]; omega]
    | 1 =>
      cases hx
      show some (Value.int .u8 (n : Int)) = some (Value.int .u8 ((n.toUInt8.toNat : Nat) : Int))
      rw [show n.toUInt8.toNat = n from by simp [Nat.toUInt8]; omega]
    | i + 2 =>
      have hx' : l[i]? = some x := hx
      have hil : i < l.length := (List.getElem?_eq_some_iff.1 hx').1
      show ([_, _] ++ Lib.byteCells l ++ _)[i + 2]? = _
      rw [List.getElem?_append_left (by rw [List.length_append, Lib.byteCells_length]; simp; omega)]
      show (Lib.byteCells l)[i]? = _
      unfold Lib.byteCells
      rw [List.getElem?_map, hx']
      rfl)
  have hBf : Hid (Below D w (((W1.setCell ⟨D, 0, none⟩ (.int .u8 (code : Int))).setCell ⟨D, 1, none⟩ (.int .u8 (n : Int))).setRow D fin)) := Lib.hid ⟨hB3.os, hB3.tape, hB3.output, by simpa using hB3.size, fun k hk => (setRow_other _ D k _ (by omega)).trans (hB3.block k hk)⟩
  have hsz : Hid (D < (((W1.setCell ⟨D, 0, none⟩ (.int .u8 (code : Int))).setCell ⟨D, 1, none⟩ (.int .u8 (n : Int))).setRow D fin).heap.size) := Lib.hid (by
    have : W1.heap.size = D + 1 := by rw [hW1, hD]; simp
    simp [this])
  have c0 := (hk1.cell 0).trans (cellsF_at T (fun _ => 0) (by omega))
  have f0 := hk1.frozen 0
  have c1 : (W1.setCell ⟨D, 0, none⟩ (.int .u8 (code : Int))).cell? ⟨D, 1, none⟩ = some (.int .u8 0) := by
    rw [hk2.cell, Array.getElem?_setIfInBounds_ne (by decide), cellsF_at T (fun _ => 0) (by omega)]
    rfl
  have f1 := hk2.frozen 1
  have CU1 := Lib.hid fun W => USize_small code W hcode
  have CU2 := Lib.hid fun W => USize_small n W hn1
  have CP1 := Lib.hid (PutU_small code D 0 T T _ W1 hcode (by omega) c0 f0)
  have CP2 := Lib.hid (PutU_small n D 1 (T - 1) (T - 1) _ (W1.setCell ⟨D, 0, none⟩ (.int .u8 (code : Int))) hn1 (by omega) c1 f1)
  have hT1 : (1 : Int) ≤ T := by omega
  have hT2 : (2 : Int) ≤ T := by omega
  have hT1N : 1 ≤ T := by omega
  have hT2N : 2 ≤ T := by omega
  have hne1 : (T = 1) = False := by simp; omega
  have hne2 : (T = 2) = False := by simp; omega
  have HT := Lib.hid hT
  have HD := Lib.hid hD
  have HN := Lib.hid hn
  clear hat hk1 hk2 hk3 hB1 hB3 hcs hc0 hc1 hcur hfin hT hD hn hW1 c0 f0 c1 f1
  go_enter Tryz.func97, Tryz.ntmps97
  go_wp2_with fail
  refine (CU1.out _).mono ?_
  rintro e w' ⟨rfl, hw'⟩
  subst w'
  go_wp2_with fail
  refine (CU2.out _).mono ?_
  rintro e w' ⟨rfl, hw'⟩
  subst w'
  go_wp2_with fail
  refine CP1.out.mono ?_
  rintro e w' ⟨rfl, hw'⟩
  subst w'
  go_wp2_with fail
  refine CP2.out.mono ?_
  rintro e w' ⟨rfl, hw'⟩
  subst w'
  go_wp2_with fail
  go_ret2
  refine ⟨_, rfl, ⟨D, 0, T, ?_, hsz.out, ?_, ?_, hRd.out⟩, ?_⟩
  · have h1 := HT.out
    have h2 := HN.out
    simp only [List.length_cons]
    exact congrArg (fun k => Value.slice (some ⟨D, 0, none⟩) k T) (by omega)
  · have h1 := HT.out
    have h2 := HN.out
    simp only [List.length_cons]
    omega
  · unfold maxLen
    have h1 := HT.out
    omega
  · rw [← HD.out]
    exact hBf.out
end Go.Proofs.YtilngifollpoeaaGreatFmt
