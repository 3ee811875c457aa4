/- base58: the alphabet's block; NewAlphabet, BTCAlphabet. -/
import Derived.Test.YtilngifollpoeaaGreatFmtBase
import Derived.Test.YtilngifollpoeaaGreatFmtProg
import Derived.Test.YtilngifollpoeaaGreatFmtCid1
import Derived.Lib.BufferWrite
import Derived.LoopTactic
import Derived.Deep.MidRow
import Derived.RegionTactic
namespace Go.Proofs.YtilngifollpoeaaGreatFmt
open Go.RowKit

/-- The cells of an alphabet: the table of 128, the 58 letters. -/
def alphC (dec : Nat → Int) (enc : Nat → Nat) : Array Value := Array.ofFn (n := 186) fun i => if i.val < 128 then .int .i8 (dec i.val) else .int .u8 ((enc (i.val - 128) : Nat) : Int)

section
variable (dec : Nat → Int) (enc : Nat → Nat)
theorem alphC_size : (alphC dec enc).size = 186 := by simp [alphC]
theorem alphC_dec {j : Nat} (hj : j < 128) : (alphC dec enc)[j]? = some (.int .i8 (dec j)) := by
  rw [Array.getElem?_eq_getElem (by rw [alphC_size]; omega)]
  simp only [alphC, Array.getElem_ofFn]
  rw [if_pos hj]
theorem alphC_enc {j : Nat} (hj : j < 58) : (alphC dec enc)[128 + j]? = some (.int .u8 ((enc j : Nat) : Int)) := by
  rw [Array.getElem?_eq_getElem (by rw [alphC_size]; omega)]
  simp only [alphC, Array.getElem_ofFn]
  rw [if_neg (by omega), Nat.add_sub_cancel_left]
theorem alphC_set {j : Nat} (hj : j < 128) (v : Int) : (alphC dec enc).setIfInBounds j (.int .i8 v) = alphC (fun k => if k = j then v else dec k) enc := by
  apply Array.ext
  · simp [alphC_size]
  · intro i h1 h2
    rw [alphC_size] at h2
    rw [Array.getElem_setIfInBounds (by rw [alphC_size]; exact h2)]
    simp only [alphC, Array.getElem_ofFn]
    by_cases h : j = i
    · subst h
      rw [if_pos rfl, if_pos hj, if_pos rfl]
    · rw [if_neg h]
      by_cases h0 : i < 128
      · rw [if_pos h0, if_pos h0, if_neg (fun e => h e.symm)]
      · rw [if_neg h0, if_neg h0]
theorem alphC_ext {g : Nat → Int} (h : ∀ k, k < 128 → dec k = g k) : alphC dec enc = alphC g enc := by
  apply Array.ext
  · simp [alphC_size]
  · intro i h1 h2
    simp only [alphC, Array.getElem_ofFn]
    by_cases h0 : i < 128
    · rw [if_pos h0, if_pos h0, h i h0]
    · rw [if_neg h0, if_neg h0]
/-- The letters copied in. -/
theorem alphC_copy (a : List UInt8) (ha : a.length = 58) : ((alphC dec enc).toList.take 128 ++ Lib.byteCells a ++ (alphC dec enc).toList.drop (128 + 58)).toArray = alphC dec (fun j => (a.getD j 0).toNat) := by
  have hd : (alphC dec enc).toList.drop (128 + 58) = [] := List.drop_eq_nil_of_le (by rw [Array.length_toList, alphC_size]; omega)
  rw [hd, List.append_nil]
  have ht : ((alphC dec enc).toList.take 128).length = 128 := by rw [List.length_take, Array.length_toList, alphC_size]; rfl
  have hb := Lib.byteCells_length a
  apply Array.ext
  · rw [List.size_toArray, List.length_append, ht, hb, ha, alphC_size]
  · intro i h1 h2
    rw [alphC_size] at h2
    apply Option.some.inj
    rw [← Array.getElem?_eq_getElem h1, ← Array.getElem?_eq_getElem (by rw [alphC_size]; exact h2), List.getElem?_toArray]
    by_cases h : i < 128
    · rw [List.getElem?_append_left (by omega), List.getElem?_take, if_pos h, Array.getElem?_toList, alphC_dec _ _ h, alphC_dec _ _ h]
    · obtain ⟨j, rfl⟩ : ∃ j, i = 128 + j := ⟨i - 128, by omega⟩
      rw [List.getElem?_append_right (by omega), ht, Nat.add_sub_cancel_left, alphC_enc _ _ (by omega)]
      unfold Lib.byteCells
      rw [List.getElem?_map, List.getElem?_eq_getElem (by omega), List.getD_eq_getElem?_getD, List.getElem?_eq_getElem (by omega)]
      rfl
end

/-- The table after k letters. -/
def decT (a : List UInt8) : Nat → Nat → Int
  | 0 => fun _ => -1
  | k + 1 => fun j => if j = (a.getD k 0).toNat then k else decT a k j

theorem infoByte5 : (Tryz.prog.info? 5).map (·.size) = some 1 := by kernel_rfl
theorem zero151 : Tryz.zeroCells192 = alphC (fun _ => 0) (fun _ => 0) := by kernel_rfl

set_option maxHeartbeats 4000000 in
set_option maxRecDepth 100000 in
theorem NewAlphabet_any (s : ByteArray) (a : List UInt8) (w : World) (hs : s.data.toList = a) (ha : a.length = 58) (h128 : ∀ x ∈ a, x.toNat < 128) :
    Calls Tryz.prog 127 #[.string s] w fun e w' => e = .returned (.pointer (some ⟨w.heap.size, 0, none⟩)) ∧ Blk w' w.heap.size 192 (alphC (decT a 58) (fun j => (a.getD j 0).toNat)) ∧ Below w.heap.size w w' := by
  have hz : s.size = 58 := by rw [size_list hs, ha]
  have z := zero151
  obtain ⟨W, hW⟩ : ∃ W, W = (w.alloc (.cells (alphC (fun _ => 0) (fun _ => 0)) 192)).setRow w.heap.size (alphC (fun _ => 0) (fun j => (a.getD j 0).toNat)) := ⟨_, rfl⟩
  have hcp : ∀ ty, (Builtin.copy_ #[22, 9] ty #[.slice (some ⟨w.heap.size, 128, none⟩) 58 58, .string s]).run Tryz.prog (w.alloc (.cells (alphC (fun _ => 0) (fun _ => 0)) 192)) = .ok (.int .i64 58) W := fun ty => by
    have h := Lib.run_copy_row_string (P := Tryz.prog) (w.alloc (.cells (alphC (fun _ => 0) (fun _ => 0)) 192)) 22 9 ty 5 w.heap.size 128 58 58 s _ 192 Tryz.underlying22 (by kernel_rfl) (heap_alloc_new w _) (by omega) (by rw [alphC_size]; omega)
    rw [hz, hs, alphC_copy _ _ a ha, ← hW] at h
    exact h
  have hblk : Hid (Blk W w.heap.size 192 (alphC (fun _ => 0) (fun j => (a.getD j 0).toNat))) := by
    rw [hW]
    exact setRow_heap _ _ _ _ _ (0, 0) (heap_alloc_new w _)
  have hbel : Hid (Below w.heap.size w W) := by
    rw [hW]
    have h0 : Below w.heap.size w (w.alloc (.cells (alphC (fun _ => 0) (fun _ => 0)) 192)) := (Below.refl _ _).alloc (Nat.le_refl _) _
    exact ⟨h0.os, h0.tape, h0.output, by simp, fun k hk => (setRow_other _ _ _ _ (by omega)).trans (h0.block k hk)⟩
  have H128 := Lib.hid h128
  have HS := Lib.hid hs
  clear hW hs h128
  go_enter Tryz.func127, Tryz.ntmps127
  go_wp2_with fail
  go_loopw [18] (fun vi wr => ∃ k : Nat, k ≤ 128 ∧ vi = .int .i64 k ∧ Hid (Blk wr w.heap.size 192 (alphC (fun j => if j < k then -1 else 0) (fun j => (a.getD j 0).toNat))) ∧ Hid (Below w.heap.size w wr)) (fun vi _ => 128 - (intOf vi).toNat)
  case atStart => exact ⟨0, by omega, rfl, by
    have h := hblk.out
    rwa [alphC_ext _ _ (g := fun j => if j < 0 then -1 else 0) (fun j hj => by rw [if_neg (Nat.not_lt_zero j)])] at h, hbel⟩
  case round =>
    clear z hcp hblk hbel
    obtain ⟨k, hk, rfl, hblk, hbel⟩ := hrel
    by_cases hk2 : k < 128
    · have hc1 : wr.cell? ⟨w.heap.size, k, none⟩ = some (.int .i8 _) := (hblk.out.cell k).trans (alphC_dec _ _ hk2)
      have hf1 := hblk.out.frozen k
      have hset := hblk.out.set_ k (.int .i8 (-1))
      rw [alphC_set _ _ hk2] at hset
      have Hset := Lib.hid hset
      clear hset
      go_wp2
      go_roundw
      case rel => exact ⟨k + 1, by omega, by go_num, by
        have h := Hset.out
        rwa [alphC_ext _ _ (g := fun j => if j < k + 1 then -1 else 0) (fun j _ => by
          by_cases h1 : j = k
          · rw [if_pos h1, if_pos (by omega)]
          · rw [if_neg h1]
            by_cases h2 : j < k
            · rw [if_pos h2, if_pos (by omega)]
            · rw [if_neg h2, if_neg (by omega)])] at h, hbel.out.setCell (p := ⟨w.heap.size, k, none⟩) (Nat.le_refl _) _⟩
      case measure => simp [intOf]; omega
    · have hk3 : k = 128 := by omega
      have hkI : ((k : Int) < 128) = False := by simp; omega
      have hb0 : Hid (Blk wr w.heap.size 192 (alphC (decT a 0) (fun j => (a.getD j 0).toNat))) := by
        have h := hblk.out
        rwa [alphC_ext _ _ (g := decT a 0) (fun j hj => by rw [if_pos (by omega)]; rfl)] at h
      have hrange : wr.rangeAt w.heap.size 128 (Lib.byteCells a) := fun j v hj => by
        unfold Lib.byteCells at hj
        rw [List.getElem?_map] at hj
        obtain ⟨x, hx, rfl⟩ := Option.map_eq_some_iff.1 hj
        have hj58 : j < 58 := by rw [← ha]; exact (List.getElem?_eq_some_iff.1 hx).1
        rw [hb0.out.cell, alphC_enc _ _ hj58, List.getD_eq_getElem?_getD, hx]
        rfl
      have hisz : (Tryz.prog.info? 190).map (·.size) = some (Lib.byteCells a).length := by rw [Lib.byteCells_length, ha]; kernel_rfl
      have Hr := Lib.hid hrange
      have Hi := Lib.hid hisz
      clear hrange hisz
      go_wp2_with (refine wpList_load_mid rfl 190 (.tmp 29) rfl w.heap.size 128 rfl (Lib.byteCells a) _ Hr.out Tryz.underlying190 rfl Hi.out ?_)
      clear hblk hk3 hkI hk hk2
      obtain ⟨E, hE⟩ : ∃ E, E = (Lib.byteCells a).toArray := ⟨_, rfl⟩
      have hEs : E.size = 58 := by rw [hE, List.size_toArray, Lib.byteCells_length, ha]
      have HE := Lib.hid hE
      rw [← hE]
      clear hE
      go_loopw [31] (fun vi wq => ∃ k : Nat, k ≤ 58 ∧ vi = .int .i64 k ∧ Hid (Blk wq w.heap.size 192 (alphC (decT a k) (fun j => (a.getD j 0).toNat))) ∧ Hid (Below w.heap.size w wq)) (fun vi _ => 58 - (intOf vi).toNat)
      case atStart => exact ⟨0, by omega, rfl, hb0, hbel⟩
      case round =>
        clear hb0 hbel
        obtain ⟨k, hk, rfl, hblk, hbel⟩ := hrel
        by_cases hk2 : k < 58
        · obtain ⟨c, hc⟩ : ∃ c, a[k]? = some c := ⟨a[k], List.getElem?_eq_getElem (by omega)⟩
          have hcd : a.getD k 0 = c := by rw [List.getD_eq_getElem?_getD, hc]; rfl
          obtain ⟨y, hy⟩ : ∃ y, y = c.toNat := ⟨_, rfl⟩
          have hy128 : y < 128 := by rw [hy]; exact H128.out c (List.mem_of_getElem? hc)
          have hEk : E[k]? = some (.int .u8 (y : Int)) := by
            rw [HE.out, List.getElem?_toArray]
            unfold Lib.byteCells
            rw [List.getElem?_map, hc, hy]
            rfl
          have hix : (Instr.index 190 (.agg E) (.int .i64 (k : Int))).run Tryz.prog wr = .ok (.int .u8 (y : Int)) wr := by
            obtain ⟨i0, hi, hi3⟩ := Option.map_eq_some_iff.1 infoByte5
            simp [Instr.index, asIntOf, run_underlying Tryz.underlying190, hk2, sizeOf, typeInfo, hi, hi3, part, hEk]
          clear hEk
          have hc1 : wr.cell? ⟨w.heap.size, y, none⟩ = some (.int .i8 _) := (hblk.out.cell y).trans (alphC_dec _ _ hy128)
          have hf1 := hblk.out.frozen y
          have hset := hblk.out.set_ y (.int .i8 k)
          rw [alphC_set _ _ hy128] at hset
          have Hset := Lib.hid hset
          have HB := Lib.hid (hbel.out.setCell (p := ⟨w.heap.size, y, none⟩) (Nat.le_refl _) (.int .i8 (k : Int)))
          have Hy := Lib.hid hy
          have Hc := Lib.hid hcd
          have hkw : IntKind.i8.wrap (k : Int) = k := by simp [IntKind.wrap, IntKind.bits, IntKind.signed]; omega
          have hyI : (y : Int) < 128 := by omega
          have hy0 : (0 : Int) ≤ y := by omega
          clear hset hblk hbel hc hcd hy
          go_wp2
          go_roundw
          case rel => exact ⟨k + 1, by omega, by go_num, by
            have h := Hset.out
            rwa [alphC_ext _ _ (g := decT a (k + 1)) (fun j _ => by
              show _ = if j = (a.getD k 0).toNat then (k : Int) else decT a k j
              rw [Hc.out, ← Hy.out])] at h, HB⟩
          case measure => simp [intOf]; omega
        · obtain rfl : k = 58 := by omega
          go_wp2
          go_ret
          exact ⟨rfl, hblk.out, hbel.out⟩

/-- The letters of base58. -/
def btcA : List UInt8 := [49, 50, 51, 52, 53, 54, 55, 56, 57, 65, 66, 67, 68, 69, 70, 71, 72, 74, 75, 76, 77, 78, 80, 81, 82, 83, 84, 85, 86, 87, 88, 89, 90, 97, 98, 99, 100, 101, 102, 103, 104, 105, 106, 107, 109, 110, 111, 112, 113, 114, 115, 116, 117, 118, 119, 120, 121, 122]

set_option maxHeartbeats 1000000 in
set_option maxRecDepth 100000 in
theorem BTCAlphabet_any (w : World) :
    Calls Tryz.prog 89 #[] w fun e w' => e = .returned (.pointer (some ⟨w.heap.size, 0, none⟩)) ∧ Blk w' w.heap.size 192 (alphC (decT btcA 58) (fun j => (btcA.getD j 0).toNat)) ∧ Below w.heap.size w w' := by
  have C1 := Lib.hid (NewAlphabet_any (str btcA) btcA w rfl rfl (by decide))
  go_enter Tryz.func89, Tryz.ntmps89
  go_wp2_with fail
  refine C1.out.mono ?_
  rintro e w1 ⟨rfl, hblk, hb1⟩
  clear C1
  go_wp2_with fail
  go_ret
  exact ⟨rfl, hblk, hb1⟩
end Go.Proofs.YtilngifollpoeaaGreatFmt
