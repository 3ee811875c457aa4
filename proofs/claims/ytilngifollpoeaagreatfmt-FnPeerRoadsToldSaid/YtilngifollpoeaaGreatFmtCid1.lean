/- CIDs of version 1 with the codec of keys: their version, type, bytes and hash. -/
import Derived.Test.YtilngifollpoeaaGreatFmtMh
import Derived.Lib.ConvBytes
import Derived.Lib.Strings
import Derived.Lib.IndexBytes
namespace Go.Proofs.YtilngifollpoeaaGreatFmt
open Go.RowKit

/-- A string by its bytes. -/
def str (l : List UInt8) : ByteArray := ⟨l.toArray⟩
theorem str_list (l : List UInt8) : (str l).data.toList = l := rfl
theorem str_size (l : List UInt8) : (str l).size = l.length := by simp [str, ByteArray.size]
theorem size_list {s : ByteArray} {l : List UInt8} (h : s.data.toList = l) : s.size = l.length := by rw [Lib.size_eq, h]
theorem str_at {s : ByteArray} {l : List UInt8} (h : s.data.toList = l) {i : Nat} (hi : i < s.size) {x : UInt8} (hx : l[i]? = some x) : s[i] = x := by
  have hi' : i < s.data.toList.length := by rw [← Lib.size_eq]; exact hi
  have e : s[i] = s.data.toList[i] := by rw [Array.getElem_toList]; rfl
  rw [e]
  have h2 : s.data.toList[i]? = some x := by rw [h]; exact hx
  exact (List.getElem?_eq_some_iff.1 h2).2
theorem str_eq {s : ByteArray} {l : List UInt8} (h : s.data.toList = l) : s = str l := by
  cases s with
  | mk d => simp only [str]; rw [← h]

set_option maxHeartbeats 1000000 in
set_option maxRecDepth 100000 in
theorem Version_any (s : ByteArray) (l : List UInt8) (w : World) (hs : s.data.toList = 1 :: l) :
    Calls Tryz.prog 52 #[.agg #[.string s]] w fun e w' => e = .returned (.int .u64 1) ∧ Below w.heap.size w w' := by
  by_cases h34 : s.size = 34
  · have hz : ((s.size : Int) == 34) = true := by rw [beq_iff_eq]; omega
    have hp : 0 < s.size := by omega
    have h0 : ((s[0].toNat : Nat) : Int) = 1 := by rw [str_at hs hp (x := 1) rfl]; rfl
    clear hs h34
    go_enter Tryz.func52, Tryz.ntmps52
    go_wp2_with fail
    go_ret
    exact ⟨rfl, (Below.refl _ _).alloc (Nat.le_refl _) _⟩
  · have hz : ((s.size : Int) == 34) = false := by rw [beq_eq_false_iff_ne]; omega
    clear hs h34
    go_enter Tryz.func52, Tryz.ntmps52
    go_wp2_with fail
    go_ret
    exact ⟨rfl, (Below.refl _ _).alloc (Nat.le_refl _) _⟩

set_option maxHeartbeats 1000000 in
set_option maxRecDepth 100000 in
/-- gocid.uvarint: a string whose first byte is a number below 128. -/
theorem cuvarint_any (s : ByteArray) (c : UInt8) (l : List UInt8) (w : World) (hs : s.data.toList = c :: l) (hc : c.toNat < 128) :
    Calls Tryz.prog 66 #[.string s] w fun e w' => e = .returned (.tuple #[.int .u64 c.toNat, .int .i64 1, .nilIface]) ∧ w = w' := by
  have hp : 0 < s.size := by rw [size_list hs]; simp
  obtain ⟨m, hm⟩ : ∃ m, c.toNat = m := ⟨_, rfl⟩
  have h0 : ((s[0].toNat : Nat) : Int) = m := by rw [str_at hs hp (x := c) rfl, hm]
  have hor : bits .or .u64 0 (m : Int) = (m : Int) := by
    rw [u64_orv0 _ _ (by omega) (by omega) (by omega) (by omega) (by omega)]
    omega
  rw [hm]
  rw [hm] at hc
  clear hs hm
  go_enter Tryz.func66, Tryz.ntmps66
  rcases Nat.eq_zero_or_pos m with rfl | h1
  · have h0' : ((s[0].toNat : Nat) : Int) = 0 := h0
    have hor' : bits .or .u64 0 0 = 0 := by decide
    clear h0
    go_wp2_with fail
    refine wp_loop_rounds 1 ?_
    rw [rounds_succ]
    go_wp2_with fail
    go_ret3
    exact ⟨rfl, rfl⟩
  · have hz : ((m : Int) == 0) = false := by rw [beq_eq_false_iff_ne]; omega
    go_wp2_with fail
    refine wp_loop_rounds 1 ?_
    rw [rounds_succ]
    go_wp2_with fail
    go_ret3
    exact ⟨rfl, rfl⟩

theorem bytesWorld_below (W : World) (e : TypeId) (s : ByteArray) : Below W.heap.size W (Lib.bytesWorld W e s) := by
  refine ⟨?_, ?_, ?_, ?_, fun k hk => Lib.bytesWorld_at_old W e s k hk⟩
  · first | (simp [Lib.bytesWorld, World.freeze]; done) | (simp [Lib.bytesWorld, World.freeze]; rfl)
  · first | (simp [Lib.bytesWorld, World.freeze]; done) | (simp [Lib.bytesWorld, World.freeze]; rfl)
  · first | (simp [Lib.bytesWorld, World.freeze]; done) | (simp [Lib.bytesWorld, World.freeze]; rfl)
  · rw [Lib.bytesWorld_size]; omega
theorem bytesWorld_rd (W : World) (e : TypeId) (s : ByteArray) {l : List UInt8} (hs : s.data.toList = l) (hl : l.length ≤ maxLen) :
    Rd (Lib.bytesWorld W e s) (Lib.bytesWorld W e s).heap.size (.slice (some ⟨W.heap.size, 0, none⟩) s.size (grownCap W s.size 0 e)) l := by
  have hz := size_list hs
  refine ⟨W.heap.size, 0, grownCap W s.size 0 e, by rw [hz], by rw [Lib.bytesWorld_size]; omega, by rw [← hz]; exact grownCap_ge _ _ _ _, grownCap_le_maxLen _ _ _ _ (by rw [hz]; exact hl), fun j x hx => ?_⟩
  have hj : j < s.size := by rw [hz]; exact (List.getElem?_eq_some_iff.1 hx).1
  rw [Nat.zero_add, Lib.bytesWorld_cell W e s j hj, hs, List.getD_eq_getElem?_getD, hx]
  rfl

/-- A new slice of the bytes l comes back; what was there is as it was. -/
def NewB (l : List UInt8) (w : World) (e : Ending) (w' : World) : Prop := ∃ v, e = .returned v ∧ Rd w' w'.heap.size v l ∧ Below w.heap.size w w'

set_option maxHeartbeats 1000000 in
set_option maxRecDepth 100000 in
theorem Bytes_any (s : ByteArray) (l : List UInt8) (w : World) (hs : s.data.toList = l) (h0 : l ≠ []) (hl : l.length ≤ maxLen) :
    Calls Tryz.prog 29 #[.agg #[.string s]] w (NewB l w) := by
  have R := Lib.hid fun (W : World) (b : Nat) (hb : b = W.heap.size) => (show Rd (Lib.bytesWorld W 5 s) (Lib.bytesWorld W 5 s).heap.size (.slice (some ⟨b, 0, none⟩) s.size (grownCap W s.size 0 5)) l from by rw [hb]; exact bytesWorld_rd W 5 s hs hl)
  have kc := fun (W : World) => Lib.run_convert_string_bytes (P := Tryz.prog) W 9 22 5 s Tryz.underlying9 Tryz.underlying22 Tryz.underlying5
  have hne : s.toList.isEmpty = false := by
    rw [show s.toList = l from by rw [← hs]; exact Lib.toList_data s]
    cases l with
    | nil => exact absurd rfl h0
    | cons => rfl
  clear hs h0
  go_enter Tryz.func29, Tryz.ntmps29
  go_wp2
  go_ret
  refine ⟨_, rfl, R.out _ _ (by simp), ?_⟩
  have hb : Below w.heap.size w ((w.alloc (.cells #[.string s] 48)).alloc (.cells #[.string s] 48)) := ((Below.refl _ _).alloc (Nat.le_refl _) _).alloc (by simp) _
  exact Below.then_ hb (bytesWorld_below _ _ _)

set_option maxHeartbeats 1000000 in
set_option maxRecDepth 100000 in
theorem Defined_any (s : ByteArray) (w : World) (h0 : s.toList.isEmpty = false) :
    Calls Tryz.prog 28 #[.agg #[.string s]] w fun e w' => e = .returned (.bool true) ∧ Below w.heap.size w w' := by
  go_enter Tryz.func28, Tryz.ntmps28
  go_wp2
  go_ret
  exact ⟨rfl, (Below.refl _ _).alloc (Nat.le_refl _) _⟩

set_option maxHeartbeats 2000000 in
set_option maxRecDepth 100000 in
theorem Type_any (s : ByteArray) (c : UInt8) (l : List UInt8) (w : World) (hs : s.data.toList = 1 :: c :: l) (hc : c.toNat < 128) (hn : s.size ≤ maxLen) :
    Calls Tryz.prog 46 #[.agg #[.string s]] w fun e w' => e = .returned (.int .u64 c.toNat) ∧ Below w.heap.size w w' := by
  unfold maxLen at hn
  have C1 := Lib.hid fun W => Version_any s (c :: l) W hs
  have C2 := Lib.hid fun W => cuvarint_any s 1 (c :: l) W hs (by decide)
  have C3 := Lib.hid fun W => cuvarint_any (s.extract 1 s.size) c l W (by rw [Lib.extract_to_end, hs]; rfl) hc
  have hp : 1 ≤ s.size := by rw [size_list hs]; simp
  obtain ⟨m, hm⟩ : ∃ m, c.toNat = m := ⟨_, rfl⟩
  rw [hm] at C3 ⊢
  clear hs hc hm
  go_enter Tryz.func46, Tryz.ntmps46
  go_wp2_with fail
  refine (C1.out _).mono ?_
  rintro e w1 ⟨rfl, hb1⟩
  obtain ⟨hc1, hf1⟩ := bcell hb1
  go_wp2_with fail
  refine (C2.out _).mono ?_
  rintro e w2 ⟨rfl, rfl⟩
  go_wp2_with fail
  refine (C3.out _).mono ?_
  rintro e w2 ⟨rfl, rfl⟩
  go_wp2_with fail
  go_ret
  exact ⟨rfl, Below.then_ ((Below.refl _ _).alloc (Nat.le_refl _) _) hb1⟩

set_option maxHeartbeats 2000000 in
set_option maxRecDepth 100000 in
theorem Hash_any (s : ByteArray) (l : List UInt8) (w : World) (hs : s.data.toList = 1 :: 114 :: l) (h0 : l ≠ []) (hn : s.size ≤ maxLen) :
    Calls Tryz.prog 47 #[.agg #[.string s]] w (NewB l w) := by
  have hl : (1 :: 114 :: l).length ≤ maxLen := by rw [← size_list hs]; exact hn
  have C0 := Lib.hid fun W => Bytes_any s (1 :: 114 :: l) W hs (by simp) hl
  have C1 := Lib.hid fun W => Version_any s (114 :: l) W hs
  have hl1 : 1 ≤ l.length := by cases l with
    | nil => exact absurd rfl h0
    | cons => simp
  clear hs hn
  go_enter Tryz.func47, Tryz.ntmps47
  go_wp2_with fail
  refine (C0.out _).mono ?_
  rintro e w1 ⟨v, rfl, hrd1, hb1⟩
  obtain ⟨hc1, hf1⟩ := bcell hb1
  obtain ⟨b, o, c, rfl, hbw, hlc, hcm, hat⟩ := hrd1
  have Hat := Lib.hid hat
  clear hat
  obtain ⟨n, hn⟩ : ∃ n, (1 :: 114 :: l).length = n := ⟨_, rfl⟩
  have hnl : l.length + 2 = n := by rw [← hn]; rfl
  rw [hn] at hlc ⊢
  have hn3 : 3 ≤ n := by omega
  unfold maxLen at hcm
  have Hn := Lib.hid hnl
  clear hn hl hnl
  go_wp2_with fail
  refine (C1.out _).mono ?_
  rintro e w2 ⟨rfl, hb2⟩
  have hat2 := Hat.out.below hb2 hbw
  have hnl := Hn.out
  have C2 := Lib.hid (FromUvarint_k b o n c 1 1 (114 :: l) w2 (by rw [Lib.uvarint_small (by decide)]; rfl) (by decide) (by simp; omega) (by omega) (by rw [Lib.uvarint_small (by decide)]; exact hat2))
  have C3 := Lib.hid (FromUvarint_k b (o + 1) (n - 1) (c - 1) 114 1 l w2 (by rw [Lib.uvarint_small (by decide)]; rfl) (by decide) (by omega) (by omega) (by rw [Lib.uvarint_small (by decide)]; exact hat2.drop 1))
  have Hat2 := Lib.hid (hat2.drop 2)
  clear hat2 hnl
  go_wp2_with fail
  refine C2.out.mono ?_
  rintro e w3 ⟨rfl, rfl⟩
  go_wp2_with fail
  refine C3.out.mono ?_
  rintro e w3 ⟨rfl, rfl⟩
  go_wp2_with fail
  go_ret
  have hnl := Hn.out
  have hb3 : Below w.heap.size w w2 := Below.then_ ((Below.refl _ _).alloc (Nat.le_refl _) (.cells #[.string s] 48)) (Below.then_ hb1 hb2)
  refine ⟨_, rfl, ⟨b, o + 2, c - 2, ?_, Nat.lt_of_lt_of_le hbw hb2.size, by omega, by unfold maxLen; omega, Hat2.out⟩, hb3⟩
  rw [show l.length = n - 2 from by omega]
  rfl

end Go.Proofs.YtilngifollpoeaaGreatFmt
