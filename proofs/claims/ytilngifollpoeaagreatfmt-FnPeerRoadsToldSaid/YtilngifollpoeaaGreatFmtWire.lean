/- protowire's appends: a number below 16384 as a varint, a tag, bytes with their length. -/
import Derived.Test.YtilngifollpoeaaGreatFmtOwn
import Derived.Test.YtilngifollpoeaaGreatFmtB58q
import Derived.Lib.EndianBits
namespace Go.Proofs.YtilngifollpoeaaGreatFmt
open Go.RowKit

/-- The slice comes back, with bytes behind what it had, in a row of its own. -/
def OwnEnds (B : Nat) (l : List UInt8) (w : World) (e : Ending) (w' : World) : Prop := ∃ v, e = .returned v ∧ v ≠ .slice none 0 0 ∧ OwnB B w' v l ∧ Below B w w'

theorem appendTwo (B : Nat) (v : Value) (l : List UInt8) (x y : UInt8) (W : World) (ty : TypeId) (h : OwnB B W v l) (hB : B ≤ W.heap.size) (hl : l.length + 2 ≤ 1000000000) :
    ∃ v' W', (Builtin.append_ #[22, 22] ty #[v, .slice (some ⟨W.heap.size, 0, none⟩) 2 2]).run Tryz.prog (W.alloc (.cells #[.int .u8 (x.toNat : Int), .int .u8 (y.toNat : Int)] 5)) = .ok v' W' ∧ OwnB B W' v' (l ++ [x, y]) ∧ v' ≠ .slice none 0 0 ∧ Below B W W' := by
  obtain ⟨v', W', hrun, hown, hne, hb⟩ := appendOwn B v (.slice (some ⟨W.heap.size, 0, none⟩) 2 2) l [x, y] (W.alloc (.cells #[.int .u8 (x.toNat : Int), .int .u8 (y.toNat : Int)] 5)) ty (h.alloc _)
    ⟨_, _, rfl, fun e => by simp at e, fun _ => ⟨_, rfl, by simp, RdAt.adds ((Blk.new W _ _).rd 0 [x, y] (fun j z hy => by
      match j with
      | 0 => cases hy; rfl
      | 1 => cases hy; rfl
      | j + 2 => cases hy))⟩⟩ (by simp; omega) (by simpa using hl)
  exact ⟨v', W', hrun, hown, fun e => by simpa using (hne e).2, ((Below.refl B W).alloc hB _).trans hb⟩

set_option maxHeartbeats 2000000 in
set_option maxRecDepth 100000 in
theorem AppendVarint_any (B x : Nat) (v : Value) (pre : List UInt8) (w : World) (hx : x < 16384) (h : OwnB B w v pre) (hB : B ≤ w.heap.size) (hl : pre.length ≤ 1000000) :
    Calls Tryz.prog 135 #[v, .int .u64 x] w (OwnEnds B (pre ++ Lib.uvarint x) w) := by
  by_cases hb : x < 128
  · obtain ⟨d, hd⟩ : ∃ d : UInt8, d = x.toUInt8 := ⟨_, rfl⟩
    have hdn : d.toNat = x := by rw [hd]; simp [Nat.toUInt8]; omega
    rw [Lib.uvarint_small hb, ← hd]
    obtain ⟨v', W', hrun, hown2, hne, hb2⟩ := appendByte B v pre d w 22 h hB (by omega)
    rw [hdn] at hrun
    have hxI : (x : Int) < 128 := by omega
    have hx256 : (x : Int) % 256 = x := by omega
    have HO := Lib.hid hown2
    have HB := Lib.hid hb2
    clear h hown2 hb2 hd hdn
    go_enter Tryz.func135, Tryz.ntmps135
    go_wp2_with (at_builtin; refine Lib.wpList_append_run _ rfl _ _ _ _ rfl _ _ rfl rfl _ _ hrun ?_)
    go_ret
    exact ⟨v', rfl, hne, HO.out, HB.out⟩
  · obtain ⟨d, hd⟩ : ∃ d : UInt8, d = (x % 128 + 128).toUInt8 := ⟨_, rfl⟩
    obtain ⟨d2, hd2⟩ : ∃ d : UInt8, d = (x / 128).toUInt8 := ⟨_, rfl⟩
    have hdn : d.toNat = x % 128 + 128 := by rw [hd]; simp [Nat.toUInt8]; omega
    have hdn2 : d2.toNat = x / 128 := by rw [hd2]; simp [Nat.toUInt8]; omega
    rw [Lib.uvarint_big (by omega), Lib.uvarint_small (by omega), ← hd, ← hd2]
    obtain ⟨v', W', hrun, hown2, hne, hb2⟩ := appendTwo B v pre d d2 w 22 h hB (by omega)
    rw [hdn, hdn2] at hrun
    have hxI : ((x : Int) < 128) = False := by simp; omega
    have hxI2 : (x : Int) < 16384 := by omega
    have HO := Lib.hid hown2
    have HB := Lib.hid hb2
    have ha : bits .or .u64 (bits .and .u64 (x : Int) 127) 128 % 256 = ((x % 128 + 128 : Nat) : Int) := by
      have h1 := bits_mask .u64 64 (by decide) wraps_u64' 7 (by decide) (x : Int) (by omega) (by omega)
      rw [show ((2 : Int) ^ 7 - 1) = 127 from rfl] at h1
      rw [h1, show (x : Int) % 2 ^ 7 = ((x % 128 : Nat) : Int) from by omega]
      rw [bits_join_low .u64 64 (by decide) wraps_u64' 7 ((x % 128 : Nat) : Int) 128 (by omega) (by omega) (by omega) (by decide) (by decide) (by decide)]
      omega
    have hq : (x : Int) / 128 % 256 = ((x / 128 : Nat) : Int) := by omega
    clear h hown2 hb2 hd hdn hd2 hdn2
    go_enter Tryz.func135, Tryz.ntmps135
    go_wp2_with (at_builtin; refine Lib.wpList_append_run _ rfl _ _ _ _ rfl _ _ rfl rfl _ _ hrun ?_)
    go_ret
    exact ⟨v', rfl, hne, HO.out, HB.out⟩
set_option maxHeartbeats 2000000 in
set_option maxRecDepth 100000 in
theorem EncodeTag_any (a b : Int) (t : Nat) (w : World) (h : (a = 1 ∧ b = 0 ∧ t = 8) ∨ (a = 2 ∧ b = 2 ∧ t = 18)) :
    Calls Tryz.prog 157 #[.int .i32 a, .int .i8 b] w fun e w' => e = .returned (.int .u64 t) ∧ w' = w := by
  have h1 : bits .and .i8 0 7 = 0 := by decide
  have h2 : bits .and .i8 2 7 = 2 := by decide
  have h3 : bits .or .u64 8 0 = 8 := by decide
  have h4 : bits .or .u64 16 2 = 18 := by decide
  rcases h with ⟨rfl, rfl, rfl⟩ | ⟨rfl, rfl, rfl⟩
  · go_enter Tryz.func157, Tryz.ntmps157
    go_wp2_with fail
    go_ret
    exact ⟨rfl, rfl⟩
  · go_enter Tryz.func157, Tryz.ntmps157
    go_wp2_with fail
    go_ret
    exact ⟨rfl, rfl⟩

set_option maxHeartbeats 2000000 in
set_option maxRecDepth 100000 in
theorem AppendTag_any (B t : Nat) (a b : Int) (v : Value) (pre : List UInt8) (w : World) (ht : (a = 1 ∧ b = 0 ∧ t = 8) ∨ (a = 2 ∧ b = 2 ∧ t = 18)) (h : OwnB B w v pre) (hB : B ≤ w.heap.size) (hl : pre.length ≤ 1000000) :
    Calls Tryz.prog 134 #[v, .int .i32 a, .int .i8 b] w (OwnEnds B (pre ++ [t.toUInt8]) w) := by
  have htl : t < 128 := by rcases ht with ⟨_, _, rfl⟩ | ⟨_, _, rfl⟩ <;> decide
  have C1 := Lib.hid fun W => EncodeTag_any a b t W ht
  have C2 := Lib.hid (AppendVarint_any B t v pre w (by omega) h hB hl)
  rw [Lib.uvarint_small htl] at C2
  clear ht h
  go_enter Tryz.func134, Tryz.ntmps134
  go_wp2_with fail
  refine (C1.out _).mono ?_
  rintro e w' ⟨rfl, hw'⟩
  subst w'
  go_wp2_with fail
  refine C2.out.mono ?_
  rintro e w1 ⟨v1, rfl, hne, hown, hb⟩
  have HO := Lib.hid hown
  clear C1 C2 hown
  go_wp2_with fail
  go_ret
  exact ⟨v1, rfl, hne, HO.out, hb⟩

theorem uvl2 {x : Nat} (h : x < 16384) : (Lib.uvarint x).length ≤ 2 := by
  by_cases hb : x < 128
  · rw [Lib.uvarint_small hb]; simp
  · rw [Lib.uvarint_big (by omega), Lib.uvarint_small (by omega)]; simp

set_option maxHeartbeats 2000000 in
set_option maxRecDepth 100000 in
theorem AppendBytes_any (B n c : Nat) (v : Value) (ao : Option Addr) (pre k : List UInt8) (w : World) (h : OwnB B w v pre) (hn : k.length = n) (hx : ∀ w1, Below B w w1 → SrcB w1 (.slice ao n c) k) (hB : B ≤ w.heap.size) (hl : pre.length ≤ 1000000) (hk : n < 16384) :
    Calls Tryz.prog 136 #[v, .slice ao n c] w (OwnEnds B (pre ++ Lib.uvarint n ++ k) w) := by
  have hun : (pre ++ Lib.uvarint n).length ≤ 1000002 := by
    have := uvl2 hk
    rw [List.length_append]
    omega
  have C1 := Lib.hid (AppendVarint_any B n v pre w hk h hB hl)
  have HX := Lib.hid hx
  have hnk : (pre ++ Lib.uvarint n).length + k.length ≤ 1000000000 := by omega
  clear h hn hx
  obtain ⟨pn, hpn⟩ : ∃ pn, pn = pre ++ Lib.uvarint n := ⟨_, rfl⟩
  rw [← hpn] at C1 hun hnk ⊢
  clear hpn
  go_enter Tryz.func136, Tryz.ntmps136
  go_wp2_with fail
  refine C1.out.mono ?_
  rintro e w1 ⟨v1, rfl, hne, hown, hb⟩
  obtain ⟨v', W', hrun, hown2, hne2, hb2⟩ := appendOwn B v1 (.slice ao n c) pn k w1 22 hown (HX.out w1 hb) (by have := hb.size; omega) hnk
  have HO := Lib.hid hown2
  have HB := Lib.hid (hb.trans hb2)
  have hv' : v' ≠ .slice none 0 0 := fun e => hne (hne2 e).1
  clear C1 HX hown hown2 hb hb2 hne hne2
  go_wp2_with (at_builtin; refine Lib.wpList_append_run _ rfl _ _ _ _ rfl _ _ rfl rfl _ _ hrun ?_)
  go_ret
  exact ⟨v', rfl, hv', HO.out, HB.out⟩
end Go.Proofs.YtilngifollpoeaaGreatFmt
