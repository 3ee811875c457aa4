/- base58 texts read: FastBase58Decoding, base58.Decode, multihash.FromB58String, peer.Decode, impl.PeerDecode. -/
import Derived.Test.YtilngifollpoeaaGreatFmtB58d
import Derived.Test.YtilngifollpoeaaGreatFmtMbd
namespace Go.Proofs.YtilngifollpoeaaGreatFmt
open Go.RowKit

set_option maxHeartbeats 4000000 in
set_option maxRecDepth 100000 in
theorem FastDec_any (s : ByteArray) (K : Nat) (l : List UInt8) (w : World) (hs : s.data.toList = t58 K l) (hK : Can 58 K (bnum l)) (hN0 : 0 < bnum l) (hl : l.length ≤ 1000000) :
    Calls Tryz.prog 98 #[.string s] w (NewBE l w) := by
  have C1 := Lib.hid (BTCAlphabet_any w)
  have C2 := Lib.hid fun (W : World) (g : Nat) (hg : Blk W g 192 (alphC (decT btcA 58) (fun j => (btcA.getD j 0).toNat))) => Dec58_any s K g l W hs hK hN0 hg hl
  clear hs hK
  go_enter Tryz.func98, Tryz.ntmps98
  go_wp2_with fail
  refine C1.out.mono ?_
  rintro e w1 ⟨rfl, hblk, hb1⟩
  go_wp2_with fail
  refine (C2.out _ _ hblk).mono ?_
  rintro e w2 ⟨v, rfl, hv, hb2⟩
  clear C1 C2
  go_wp2_with fail
  go_ret2
  exact ⟨v, rfl, hv, Below.then_ hb1 hb2⟩

set_option maxHeartbeats 4000000 in
set_option maxRecDepth 100000 in
theorem Dec58s_any (s : ByteArray) (K : Nat) (l : List UInt8) (w : World) (hs : s.data.toList = t58 K l) (hK : Can 58 K (bnum l)) (hN0 : 0 < bnum l) (hl : l.length ≤ 1000000) :
    Calls Tryz.prog 60 #[.string s] w (NewBE l w) := by
  have C1 := Lib.hid (FastDec_any s K l w hs hK hN0 hl)
  clear hs hK
  go_enter Tryz.func60, Tryz.ntmps60
  go_wp2_with fail
  refine C1.out.mono ?_
  rintro e w1 ⟨v, rfl, hv, hb1⟩
  clear C1
  go_wp2_with fail
  go_ret2
  exact ⟨v, rfl, hv, hb1⟩

set_option maxHeartbeats 4000000 in
set_option maxRecDepth 100000 in
theorem FromB58_any (s : ByteArray) (K code : Nat) (l data : List UInt8) (w : World) (h : IsMh l code data) (hs : s.data.toList = t58 K l) (hK : Can 58 K (bnum l)) (hN0 : 0 < bnum l) (hl : l.length ≤ 1000000) :
    Calls Tryz.prog 41 #[.string s] w (NewBE l w) := by
  have C1 := Lib.hid (Dec58s_any s K l w hs hK hN0 hl)
  have C2 := Lib.hid fun (W : World) (b o c : Nat) (hlc : l.length ≤ c) (hc : c ≤ maxLen) (hb : b < W.heap.size) (hat : RdAt W b o l) => mhCast_any b o l.length c code l data W h rfl hlc (by unfold maxLen at hc; omega) hb hat
  clear hs hK h
  go_enter Tryz.func41, Tryz.ntmps41
  go_wp2_with fail
  refine C1.out.mono ?_
  rintro e w1 ⟨v, rfl, hv, hb1⟩
  obtain ⟨b, o, c, rfl, hb, hlc, hcm, hat⟩ := hv
  have C := Lib.hid (C2.out w1 b o c hlc hcm hb hat)
  have HAT := Lib.hid hat
  clear C1 C2 hat
  go_wp2_with fail
  refine C.out.mono ?_
  rintro e w2 ⟨rfl, hb2⟩
  clear C
  go_wp2_with fail
  go_ret2
  exact ⟨_, rfl, ⟨b, o, c, rfl, by have := hb2.size; omega, hlc, hcm, HAT.out.below hb2 hb⟩, Below.then_ hb1 hb2⟩

set_option maxHeartbeats 4000000 in
set_option maxRecDepth 100000 in
theorem peerDecode58_any (s : ByteArray) (K code : Nat) (l data : List UInt8) (w : World) (h : IsMh l code data) (hs : s.data.toList = t58 K l) (hK : Can 58 K (bnum l)) (hN0 : 0 < bnum l) (hl : l.length ≤ 1000000)
    (hp : Lib.hasPrefix s.data.toList [81, 109] = true ∨ Lib.hasPrefix s.data.toList [49] = true) :
    Calls Tryz.prog 23 #[.string s] w (FcEnds l w) := by
  have P1 := Lib.hid fun W => Tryz.strings_HasPrefix s ⟨#[81, 109]⟩ W
  have P2 := Lib.hid fun W => Tryz.strings_HasPrefix s ⟨#[49]⟩ W
  rw [show (⟨#[81, 109]⟩ : ByteArray).data.toList = [81, 109] from rfl] at P1
  rw [show (⟨#[49]⟩ : ByteArray).data.toList = [49] from rfl] at P2
  have C1 := Lib.hid fun W => FromB58_any s K code l data W h hs hK hN0 hl
  have KC := Lib.hid fun (W : World) (b o c : Nat) (hat : RdAt W b o l) => conv_rd (P := Tryz.prog) W Tryz.underlying67 Tryz.underlying5 Tryz.underlying40 (n := l.length) rfl hat (c := c)
  unfold FcEnds
  generalize str l = s3 at KC ⊢
  clear h hs hK
  obtain ⟨b1, hb1⟩ : ∃ b, b = Lib.hasPrefix s.data.toList [81, 109] := ⟨_, rfl⟩
  obtain ⟨b2, hb2⟩ : ∃ b, b = Lib.hasPrefix s.data.toList [49] := ⟨_, rfl⟩
  rw [← hb1] at P1 hp
  rw [← hb2] at P2 hp
  clear hb1 hb2
  cases b1
  · obtain rfl : b2 = true := by simpa using hp
    go_enter Tryz.func23, Tryz.ntmps23
    go_wp2_with fail
    refine (P1.out _).mono ?_
    rintro e w1 ⟨rfl, hw1⟩
    subst w1
    go_wp2_with fail
    refine (P2.out _).mono ?_
    rintro e w1 ⟨rfl, hw1⟩
    subst w1
    go_wp2_with fail
    refine (C1.out _).mono ?_
    rintro e w1 ⟨v, rfl, hv, hb1⟩
    obtain ⟨b, o, c, rfl, hb, hlc, hcm, hat⟩ := hv
    have kc := KC.out w1 b o c hat
    clear hat
    go_wp2_with fail
    go_ret2
    exact ⟨rfl, hb1⟩
  · go_enter Tryz.func23, Tryz.ntmps23
    go_wp2_with fail
    refine (P1.out _).mono ?_
    rintro e w1 ⟨rfl, hw1⟩
    subst w1
    go_wp2_with fail
    refine (C1.out _).mono ?_
    rintro e w1 ⟨v, rfl, hv, hb1⟩
    obtain ⟨b, o, c, rfl, hb, hlc, hcm, hat⟩ := hv
    have kc := KC.out w1 b o c hat
    clear hat
    go_wp2_with fail
    go_ret2
    exact ⟨rfl, hb1⟩

set_option maxHeartbeats 4000000 in
set_option maxRecDepth 100000 in
theorem PeerDecode58_any (s : ByteArray) (K code : Nat) (l data : List UInt8) (w : World) (h : IsMh l code data) (hs : s.data.toList = t58 K l) (hK : Can 58 K (bnum l)) (hN0 : 0 < bnum l) (hl : l.length ≤ 1000000)
    (hp : Lib.hasPrefix s.data.toList [81, 109] = true ∨ Lib.hasPrefix s.data.toList [49] = true) :
    Calls Tryz.prog 8 #[.string s] w (NewBT l w) := by
  have C1 := Lib.hid (peerDecode58_any s K code l data w h hs hK hN0 hl hp)
  have K2 := Lib.hid fun (W : World) => conv_id l (by omega) W
  unfold FcEnds at C1
  generalize str l = s3 at C1 K2
  clear h hs hK hp
  go_enter Tryz.func8, Tryz.ntmps8
  go_wp2_with fail
  refine C1.out.mono ?_
  rintro e w1 ⟨rfl, hb1⟩
  obtain ⟨v2, W2, hk, hv2, hb2⟩ := K2.out w1
  clear C1 K2
  go_wp2_with fail
  go_ret2
  exact ⟨_, rfl, hv2, Below.then_ hb1 hb2⟩
end Go.Proofs.YtilngifollpoeaaGreatFmt
