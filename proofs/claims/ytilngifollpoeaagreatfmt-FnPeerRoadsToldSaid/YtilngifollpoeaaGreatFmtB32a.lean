/- base32: the encoding's block; NewEncodingCI, WithPadding, EncodedLen; the two encodings that are used. -/
import Derived.Test.YtilngifollpoeaaGreatFmtBase
import Derived.Test.YtilngifollpoeaaGreatFmtProg
import Derived.Test.YtilngifollpoeaaGreatFmtCid1
import Derived.LoopTactic
import Derived.RegionTactic
import Derived.StillTailTactics
import Derived.Deep.QuietTactic
import Derived.BigQuiet
namespace Go.Proofs.YtilngifollpoeaaGreatFmt
open Go.RowKit

/-- The cells of an encoding: the letters, the table of 256, the padding. -/
def encC (s : ByteArray) (f : Nat → Int) (pad : Int) : Array Value := Array.ofFn (n := 258) fun i => if i.val = 0 then .string s else if i.val = 257 then .int .i32 pad else .int .u8 (f (i.val - 1))

section
variable (s : ByteArray) (f : Nat → Int) (pad : Int)
theorem encC_size : (encC s f pad).size = 258 := by simp [encC]
theorem encC_zero : (encC s f pad)[0]? = some (.string s) := by simp [encC]
theorem encC_at {j : Nat} (hj : j < 256) : (encC s f pad)[1 + j]? = some (.int .u8 (f j)) := by
  rw [Array.getElem?_eq_getElem (by rw [encC_size]; omega)]
  simp only [encC, Array.getElem_ofFn]
  rw [if_neg (by omega), if_neg (by omega)]
  congr 3
  omega
theorem encC_pad : (encC s f pad)[257]? = some (.int .i32 pad) := by simp [encC]
theorem encC_set {j : Nat} (hj : j < 256) (v : Int) : (encC s f pad).setIfInBounds (1 + j) (.int .u8 v) = encC s (fun k => if k = j then v else f k) pad := by
  apply Array.ext
  · simp [encC_size]
  · intro i h1 h2
    rw [encC_size] at h2
    rw [Array.getElem_setIfInBounds (by rw [encC_size]; exact h2)]
    simp only [encC, Array.getElem_ofFn]
    by_cases h : 1 + j = i
    · subst h
      rw [if_pos rfl, if_neg (by omega), if_neg (by omega), if_pos (by omega)]
    · rw [if_neg h]
      by_cases h0 : i = 0
      · simp [h0]
      · by_cases h257 : i = 257
        · simp [h257]
        · rw [if_neg h0, if_neg h257, if_neg h0, if_neg h257, if_neg (by omega)]
theorem encC_setpad (v : Int) : (encC s f pad).setIfInBounds 257 (.int .i32 v) = encC s f v := by
  apply Array.ext
  · simp [encC_size]
  · intro i h1 h2
    rw [encC_size] at h2
    rw [Array.getElem_setIfInBounds (by rw [encC_size]; exact h2)]
    simp only [encC, Array.getElem_ofFn]
    by_cases h : 257 = i
    · subst h
      simp
    · rw [if_neg h]
      by_cases h0 : i = 0
      · simp [h0]
      · rw [if_neg h0, if_neg (by omega), if_neg h0, if_neg (by omega)]
theorem encC_setstr (v : ByteArray) : (encC s f pad).setIfInBounds 0 (.string v) = encC v f pad := by
  apply Array.ext
  · simp [encC_size]
  · intro i h1 h2
    rw [encC_size] at h2
    rw [Array.getElem_setIfInBounds (by rw [encC_size]; exact h2)]
    simp only [encC, Array.getElem_ofFn]
    by_cases h : 0 = i
    · subst h
      simp
    · rw [if_neg h]
      have h0 : i ≠ 0 := fun e => h e.symm
      rw [if_neg h0, if_neg h0]
theorem encC_ext {g : Nat → Int} (h : ∀ k, k < 256 → f k = g k) : encC s f pad = encC s g pad := by
  apply Array.ext
  · simp [encC_size]
  · intro i h1 h2
    rw [encC_size] at h2
    simp only [encC, Array.getElem_ofFn]
    by_cases h0 : i = 0
    · simp [h0]
    · by_cases h257 : i = 257
      · simp [h257]
      · rw [if_neg h0, if_neg h257, if_neg h0, if_neg h257, h _ (by omega)]
end

/-- A letter in small, in great. -/
def lowC (c : Nat) : Nat := if 65 ≤ c ∧ c ≤ 90 then c + 32 else c
def upC (c : Nat) : Nat := if 97 ≤ c ∧ c ≤ 122 then c - 32 else c
theorem lowC_lt {c : Nat} (h : c < 256) : lowC c < 256 := by unfold lowC; split <;> omega
theorem upC_lt {c : Nat} (h : c < 256) : upC c < 256 := by unfold upC; split <;> omega

/-- The table after k letters. -/
def tabAt (a : List UInt8) : Nat → Nat → Int
  | 0 => fun _ => 255
  | k + 1 => fun j => if j = upC (a.getD k 0).toNat then k else if j = lowC (a.getD k 0).toNat then k else tabAt a k j

set_option maxHeartbeats 1000000 in
set_option maxRecDepth 100000 in
theorem lower_any (c : Nat) (hc : c < 256) (w : World) :
    Calls Tryz.prog 154 #[.int .u8 c] w fun e w' => e = .returned (.int .u8 (lowC c : Nat)) ∧ w' = w := by
  by_cases h1 : 65 ≤ c
  · by_cases h2 : c ≤ 90
    · have e : lowC c = c + 32 := by unfold lowC; rw [if_pos ⟨h1, h2⟩]
      go_enter Tryz.func154, Tryz.ntmps154
      go_wp2
      all_goals (go_ret; refine ⟨?_, rfl⟩; rw [e]; first | rfl | exact congrArg (fun z => Ending.returned (Value.int IntKind.u8 z)) (by omega))
    · have e : lowC c = c := by unfold lowC; rw [if_neg (by omega)]
      go_enter Tryz.func154, Tryz.ntmps154
      go_wp2
      all_goals (go_ret; refine ⟨?_, rfl⟩; first | rfl | (rw [e]; rfl))
  · have e : lowC c = c := by unfold lowC; rw [if_neg (by omega)]
    go_enter Tryz.func154, Tryz.ntmps154
    go_wp2
    all_goals (go_ret; refine ⟨?_, rfl⟩; first | rfl | (rw [e]; rfl))

set_option maxHeartbeats 1000000 in
set_option maxRecDepth 100000 in
theorem upper_any (c : Nat) (hc : c < 256) (w : World) :
    Calls Tryz.prog 155 #[.int .u8 c] w fun e w' => e = .returned (.int .u8 (upC c : Nat)) ∧ w' = w := by
  by_cases h1 : 97 ≤ c
  · by_cases h2 : c ≤ 122
    · have e : upC c = c - 32 := by unfold upC; rw [if_pos ⟨h1, h2⟩]
      go_enter Tryz.func155, Tryz.ntmps155
      go_wp2
      all_goals (go_ret; refine ⟨?_, rfl⟩; rw [e]; first | rfl | exact congrArg (fun z => Ending.returned (Value.int IntKind.u8 z)) (by omega))
    · have e : upC c = c := by unfold upC; rw [if_neg (by omega)]
      go_enter Tryz.func155, Tryz.ntmps155
      go_wp2
      all_goals (go_ret; refine ⟨?_, rfl⟩; first | rfl | (rw [e]; rfl))
  · have e : upC c = c := by unfold upC; rw [if_neg (by omega)]
    go_enter Tryz.func155, Tryz.ntmps155
    go_wp2
    all_goals (go_ret; refine ⟨?_, rfl⟩; first | rfl | (rw [e]; rfl))

theorem zero145 : Tryz.zeroCells203 = encC ⟨#[]⟩ (fun _ => 0) 0 := by kernel_rfl

set_option maxHeartbeats 4000000 in
set_option maxRecDepth 100000 in
theorem NewEncodingCI_any (s : ByteArray) (a : List UInt8) (w : World) (hs : s.data.toList = a) (ha : a.length = 32) :
    Calls Tryz.prog 125 #[.string s] w fun e w' => e = .returned (.pointer (some ⟨w.heap.size, 0, none⟩)) ∧ Blk w' w.heap.size 203 (encC s (tabAt a 32) 61) ∧ Below w.heap.size w w' := by
  have hz : s.size = 32 := by rw [size_list hs, ha]
  have z := zero145
  have p0 : (encC ⟨#[]⟩ (fun _ => 0) 0)[257]? = some (.int .i32 0) := encC_pad _ _ _
  have p1 : (encC ⟨#[]⟩ (fun _ => 0) 0).setIfInBounds 257 (.int .i32 61) = encC ⟨#[]⟩ (fun _ => 0) 61 := encC_setpad _ _ _ _
  have p2 : (encC ⟨#[]⟩ (fun _ => 0) 61)[0]? = some (.string ⟨#[]⟩) := encC_zero _ _ _
  have p3 : (encC ⟨#[]⟩ (fun _ => 0) 61).setIfInBounds 0 (.string s) = encC s (fun _ => 0) 61 := encC_setstr _ _ _ _
  have C1 := Lib.hid fun (W : World) (c : UInt8) => lower_any c.toNat c.toNat_lt W
  have C2 := Lib.hid fun (W : World) (c : UInt8) => upper_any c.toNat c.toNat_lt W
  go_enter Tryz.func125, Tryz.ntmps125
  go_wp2_with fail
  clear z p0 p1 p2 p3
  go_loopw [4] (fun vi wr => ∃ k : Nat, k ≤ 256 ∧ vi = .int .i64 k ∧ Hid (Blk wr w.heap.size 203 (encC s (fun j => if j < k then 255 else 0) 61)) ∧ Hid (Below w.heap.size w wr)) (fun vi _ => 256 - (intOf vi).toNat)
  case atStart => exact ⟨0, by omega, rfl, Blk.new _ _ _, (Below.refl _ _).alloc (Nat.le_refl _) _⟩
  case round =>
    obtain ⟨k, hk, rfl, hblk, hbel⟩ := hrel
    by_cases hk2 : k < 256
    · have hc1 : wr.cell? ⟨w.heap.size, 1 + k, none⟩ = some (.int .u8 _) := (hblk.out.cell (1 + k)).trans (encC_at _ _ _ hk2)
      have hf1 := hblk.out.frozen (1 + k)
      have hset := hblk.out.set_ (1 + k) (.int .u8 255)
      rw [encC_set _ _ _ hk2] at hset
      have Hset := Lib.hid hset
      clear hset
      go_wp2
      go_roundw
      case rel => exact ⟨k + 1, by omega, by go_num, by
        have h := Hset.out
        rwa [encC_ext s _ 61 (g := fun j => if j < k + 1 then 255 else 0) (fun j _ => by
          by_cases h1 : j = k
          · rw [if_pos h1, if_pos (by omega)]
          · rw [if_neg h1]
            by_cases h2 : j < k
            · rw [if_pos h2, if_pos (by omega)]
            · rw [if_neg h2, if_neg (by omega)])] at h, hbel.out.setCell (p := ⟨w.heap.size, 1 + k, none⟩) (Nat.le_refl _) _⟩
      case measure => simp [intOf]; omega
    · have hk3 : k = 256 := by omega
      have hkI : ((k : Int) < 256) = False := by simp; omega
      go_wp2
      have hb0 : Hid (Blk wr w.heap.size 203 (encC s (tabAt a 0) 61)) := by
        have h := hblk.out
        rwa [encC_ext s _ 61 (g := tabAt a 0) (fun j hj => by rw [if_pos (by omega)]; rfl)] at h
      go_loopw [5] (fun vi wq => ∃ k : Nat, k ≤ 32 ∧ vi = .int .i64 k ∧ Hid (Blk wq w.heap.size 203 (encC s (tabAt a k) 61)) ∧ Hid (Below w.heap.size w wq)) (fun vi _ => 32 - (intOf vi).toNat)
      case atStart => exact ⟨0, by omega, rfl, hb0, hbel⟩
      case round =>
        clear hb0 hblk hbel hk2 hk hk3 hkI
        obtain ⟨k, hk, rfl, hblk, hbel⟩ := hrel
        by_cases hk2 : k < 32
        · obtain ⟨c, hc⟩ : ∃ c, a[k]? = some c := ⟨a[k], List.getElem?_eq_getElem (by omega)⟩
          have hks : k < s.size := by omega
          have hsk : s[k] = c := str_at hs hks hc
          have hl := lowC_lt c.toNat_lt
          have hu := upC_lt c.toNat_lt
          have hkw : IntKind.u8.wrap (k : Int) = k := by simp [IntKind.wrap, IntKind.bits, IntKind.signed]; omega
          have hc1 : wr.cell? ⟨w.heap.size, 1 + lowC c.toNat, none⟩ = some (.int .u8 _) := (hblk.out.cell _).trans (encC_at _ _ _ hl)
          have hf1 := hblk.out.frozen (1 + lowC c.toNat)
          have hset := hblk.out.set_ (1 + lowC c.toNat) (.int .u8 k)
          rw [encC_set _ _ _ hl] at hset
          have Hset := Lib.hid hset
          have Hb1 := Lib.hid (hbel.out.setCell (p := ⟨w.heap.size, 1 + lowC c.toNat, none⟩) (Nat.le_refl _) (.int .u8 k))
          clear hset hblk hbel
          generalize hC : lowC c.toNat = C at hc1 hf1 Hset Hb1 hl
          have hlI : (C : Int) < 256 := by omega
          have hl0 : (0 : Int) ≤ C := by omega
          go_wp2
          refine wp_region_still_tail 10 (by kernel_rfl) (by kernel_rfl) ?_
          simp only [List.take_succ_cons, List.take_zero, List.drop_succ_cons, List.drop_zero]
          still_step
          still_step
          still_step
          still_step
          still_call (C1.out _ _)
          rw [hC]
          repeat still_step
          refine wpStill_nil ?_
          change wpList _ _ _ _ _ wr.drew
          go_wp2
          have Hset2 : Hid (Blk (wr.setCell ⟨w.heap.size, 1 + C, none⟩ (.int .u8 k)).drew w.heap.size 203 _) := Hset
          have Hb2 : Hid (Below w.heap.size w (wr.setCell ⟨w.heap.size, 1 + C, none⟩ (.int .u8 k)).drew) := Lib.hid (below_drewN Hb1.out 1)
          clear Hset Hb1 hc1 hf1
          generalize (wr.setCell ⟨w.heap.size, 1 + C, none⟩ (.int .u8 k)).drew = wv at Hset2 Hb2
          have hc2 : wv.cell? ⟨w.heap.size, 1 + upC c.toNat, none⟩ = some (.int .u8 _) := (Hset2.out.cell _).trans (encC_at _ _ _ hu)
          have hf2 := Hset2.out.frozen (1 + upC c.toNat)
          have hset := Hset2.out.set_ (1 + upC c.toNat) (.int .u8 k)
          rw [encC_set _ _ _ hu] at hset
          have Hset := Lib.hid hset
          have Hb1 := Lib.hid (Hb2.out.setCell (p := ⟨w.heap.size, 1 + upC c.toNat, none⟩) (Nat.le_refl _) (.int .u8 k))
          clear hset Hset2 Hb2
          have hu' := hu
          generalize hU : upC c.toNat = U at hc2 hf2 Hset Hb1 hu'
          have huI : (U : Int) < 256 := by omega
          have hu0 : (0 : Int) ≤ U := by omega
          refine wp_region_still_tail 10 (by kernel_rfl) (by kernel_rfl) ?_
          simp only [List.take_succ_cons, List.take_zero, List.drop_succ_cons, List.drop_zero]
          still_step
          still_step
          still_step
          still_step
          still_call (C2.out _ _)
          rw [hU]
          repeat still_step
          refine wpStill_nil ?_
          change wpList _ _ _ _ _ wv.drew
          go_wp2
          go_roundw
          case rel => exact ⟨k + 1, by omega, by go_num, by
            have h := Hset.out.drew
            have e : a.getD k 0 = c := by rw [List.getD_eq_getElem?_getD, hc]; rfl
            rwa [encC_ext s _ 61 (g := tabAt a (k + 1)) (fun j _ => by
              show _ = if j = upC (a.getD k 0).toNat then (k : Int) else if j = lowC (a.getD k 0).toNat then k else tabAt a k j
              rw [e, hC, hU])] at h, below_drewN Hb1.out 1⟩
          case measure => simp [intOf]; omega
        · obtain rfl : k = 32 := by omega
          go_wp2
          go_ret
          exact ⟨rfl, hblk.out, hbel.out⟩

set_option maxHeartbeats 4000000 in
set_option maxRecDepth 100000 in
theorem WithPadding_any (s : ByteArray) (f : Nat → Int) (pad : Int) (w : World) :
    Calls Tryz.prog 122 #[.agg (encC s f pad), .int .i32 (-1)] w fun e w' => e = .returned (.pointer (some ⟨w.heap.size, 0, none⟩)) ∧ Blk w' w.heap.size 203 (encC s f (-1)) ∧ Below w.heap.size w w' := by
  have p0 : (encC s f pad)[257]? = some (.int .i32 pad) := encC_pad _ _ _
  have p1 : (encC s f pad).setIfInBounds 257 (.int .i32 (-1)) = encC s f (-1) := encC_setpad _ _ _ _
  go_enter Tryz.func122, Tryz.ntmps122
  go_wp2_with fail
  go_ret
  exact ⟨rfl, Blk.new _ _ _, (Below.refl _ _).alloc (Nat.le_refl _) _⟩

end Go.Proofs.YtilngifollpoeaaGreatFmt
