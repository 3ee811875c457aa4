/- What reads the text of a CID: multibase Decode (base32), cid.Decode, peer.Decode, impl.PeerDecode. -/
import Derived.Test.YtilngifollpoeaaGreatFmtB32y
import Derived.Test.YtilngifollpoeaaGreatFmtPeer1
import Derived.Deep.RegionWith
namespace Go.Proofs.YtilngifollpoeaaGreatFmt
open Go.RowKit

set_option maxHeartbeats 2000000 in
set_option maxRecDepth 100000 in
theorem DecodeRune_any (s : ByteArray) (c : UInt8) (l : List UInt8) (w : World) (hs : s.data.toList = c :: l) (hc : c.toNat < 128) :
    Calls Tryz.prog 99 #[.string s] w fun e w' => e = .returned (.tuple #[.int .i32 c.toNat, .int .i64 1]) ∧ w' = w := by
  have hp : 0 < s.size := by rw [size_list hs]; simp
  have hne : s.toList.isEmpty = false := by
    rw [show s.toList = c :: l from by rw [← hs]; exact Lib.toList_data s]
    rfl
  obtain ⟨m, hm⟩ : ∃ m, c.toNat = m := ⟨_, rfl⟩
  have h0 : ((s[0].toNat : Nat) : Int) = m := by rw [str_at hs hp (x := c) rfl, hm]
  rw [hm] at hc ⊢
  have hcI : (m : Int) < 128 := by omega
  clear hs hm
  go_enter Tryz.func99, Tryz.ntmps99
  go_wp2_with fail
  go_ret2
  exact ⟨rfl, rfl⟩

/-- A text's bytes come back with the letter of base32, no error. -/
def MdEnds (l : List UInt8) (w : World) (e : Ending) (w' : World) : Prop := ∃ v, e = .returned (.tuple #[.int .i64 98, v, .nilIface]) ∧ Rd w' w'.heap.size v l ∧ Below w.heap.size w w'

set_option maxHeartbeats 4000000 in
set_option maxRecDepth 100000 in
theorem mbDecode_any (s : ByteArray) (l : List UInt8) (w : World) (hs : s.data.toList = mbT l) (hl : l.length ≤ 1000000000) :
    Calls Tryz.prog 62 #[.string s] w (MdEnds l w) := by
  have C1 := Lib.hid fun W => DecodeRune_any s 98 (t32 smallA l) W hs (by decide)
  have C2 := Lib.hid fun W => RawStd_any W
  have C3 := Lib.hid fun (W : World) (g : Nat) (hg : Blk W g 203 (encC (str greatA) (tabAt greatA 32) (-1))) => DecodeString_any (str greatA) (s.extract 1 s.size) smallA l (tabAt greatA 32) g W rfl (by rw [Lib.extract_to_end, hs]; rfl) hg (by omega) small_table small_plain
  have hp : 1 ≤ s.size := by rw [size_list hs]; simp [mbT]
  have hz : ((s.size : Int) == 0) = false := by rw [beq_eq_false_iff_ne]; omega
  have hm : s.size ≤ 9223372036854775807 := by rw [size_list hs]; simp [mbT, t32_len]; omega
  clear hs
  go_enter Tryz.func62, Tryz.ntmps62
  go_wp2_with fail
  refine (C1.out _).mono ?_
  rintro e w1 ⟨rfl, hw1⟩
  subst w1
  go_wp2_with fail
  go_region_with (first
    | (go_at_call 102; refine (C2.out _).mono ?_; rintro e w2 ⟨g, rfl, hgw, hblk, hb2⟩)
    | (go_at_call 103; refine (C3.out _ _ ?_).mono ?_; exact hblk; rintro e w3 ⟨v, rfl, hv, hb3⟩))
  all_goals go_wp2_with fail
  all_goals
    refine bodyPost_ret (v := .tuple #[.int .i64 98, v, .nilIface]) ?_ rfl ?_
    · simp only [results, Tryz.results62]
      go_simp
    · exact ⟨v, rfl, hv, Below.then_ (below_drewN (Below.refl _ w) 1) (Below.then_ hb2 hb3)⟩

theorem mbT_ne (l : List UInt8) (s : ByteArray) (hs : s.data.toList = mbT l) : ((s.extract 0 2).toList == [81, 109]) = false := by
  rw [show (s.extract 0 2).toList = (mbT l).take 2 from by
    rw [Lib.toList_data, ByteArray.data_extract, Array.toList_extract, hs]
    simp]
  rfl

set_option maxHeartbeats 4000000 in
set_option maxRecDepth 100000 in
theorem cidDecode_any (s : ByteArray) (code : Nat) (l data : List UInt8) (w : World) (h : IsMh l code data) (hs : s.data.toList = mbT (1 :: 114 :: l)) (hl : l.length ≤ 1000000) :
    Calls Tryz.prog 43 #[.string s] w (CcEnds (1 :: 114 :: l) w) := by
  have h2 := h.two
  have hlen : (mbT (1 :: 114 :: l)).length = s.size := (size_list hs).symm
  have h2s : 2 ≤ s.size := by rw [← hlen]; simp only [mbT, t32_len, List.length_cons]; omega
  have hne := mbT_ne _ s hs
  have C1 := Lib.hid fun W => mbDecode_any s (1 :: 114 :: l) W hs (by simp; omega)
  have C2 := Lib.hid fun (W : World) (b o c : Nat) (n : Nat) (hn : l.length + 2 = n) (hb : b < W.heap.size) (hnc : n ≤ c) (hc : c ≤ maxLen) (hat : RdAt W b o (1 :: 114 :: l)) => cidCast_any b o n c code l data W h hn hnc (by unfold maxLen at hc; omega) hb hat
  unfold CcEnds at C2 ⊢
  generalize str (1 :: 114 :: l) = s2 at C2 ⊢
  have hz2 : ((s.size : Int) < 2) = False := by simp; omega
  clear hs h hlen
  go_enter Tryz.func43, Tryz.ntmps43
  obtain ⟨bz, hz⟩ : ∃ bz, ((s.size : Int) == 46) = bz := ⟨_, rfl⟩
  cases bz
  all_goals
    go_wp2_with fail
    refine (C1.out _).mono ?_
    rintro e w1 ⟨v1, rfl, hv1, hb1⟩
    obtain ⟨b1, o1, c1, rfl, hbb, hlc1, hcm1, hat1⟩ := hv1
    have C := Lib.hid (C2.out w1 b1 o1 c1 _ rfl hbb (by simpa using hlc1) hcm1 hat1)
    clear hat1 hlc1
    rw [show (1 :: 114 :: l).length = l.length + 2 from rfl] at *
    go_wp2_with fail
    refine C.out.mono ?_
    rintro e w2 ⟨rfl, hb2⟩
    have B2 := Below.then_ ((Below.refl w.heap.size w).alloc (Nat.le_refl _) (.cells #[.string ⟨#[]⟩] 48)) (Below.then_ hb1 hb2)
    have cz : w2.cell? ⟨w.heap.size, 0, none⟩ = (w.alloc (.cells #[.string ⟨#[]⟩] 48)).cell? ⟨w.heap.size, 0, none⟩ := (Below.then_ hb1 hb2).cell (p := ⟨w.heap.size, 0, none⟩) (by simp)
    have fz : w2.frozen? ⟨w.heap.size, 0, none⟩ = (w.alloc (.cells #[.string ⟨#[]⟩] 48)).frozen? ⟨w.heap.size, 0, none⟩ := (Below.then_ hb1 hb2).frozen (p := ⟨w.heap.size, 0, none⟩) (by simp)
    go_wp2_with fail
    refine bodyPost_ret (v := .tuple #[.agg #[.string s2], .nilIface]) ?_ rfl ?_
    · simp only [results, Tryz.results43]
      go_simp
    · exact ⟨rfl, B2.setCell (p := ⟨w.heap.size, 0, none⟩) (Nat.le_refl _) _⟩

theorem mbT_prefix (l : List UInt8) : Lib.hasPrefix (mbT l) [81, 109] = false ∧ Lib.hasPrefix (mbT l) [49] = false := ⟨rfl, rfl⟩

set_option maxHeartbeats 4000000 in
set_option maxRecDepth 100000 in
theorem peerDecode_any (s : ByteArray) (code : Nat) (l data : List UInt8) (w : World) (h : IsMh l code data) (hs : s.data.toList = mbT (1 :: 114 :: l)) (hl : l.length ≤ 1000000) :
    Calls Tryz.prog 23 #[.string s] w (FcEnds l w) := by
  have h2 := h.two
  have P1 := Lib.hid fun W => Tryz.strings_HasPrefix s ⟨#[81, 109]⟩ W
  have P2 := Lib.hid fun W => Tryz.strings_HasPrefix s ⟨#[49]⟩ W
  rw [hs] at P1 P2
  have C1 := Lib.hid fun W => cidDecode_any s code l data W h hs hl
  have C2 := Lib.hid fun W => FromCid_any (str (1 :: 114 :: l)) l W rfl (by intro e; rw [e] at h2; simp at h2) (by rw [str_size]; unfold maxLen; simp; omega)
  rw [show (Lib.hasPrefix (mbT (1 :: 114 :: l)) (⟨#[81, 109]⟩ : ByteArray).data.toList) = false from rfl] at P1
  rw [show (Lib.hasPrefix (mbT (1 :: 114 :: l)) (⟨#[49]⟩ : ByteArray).data.toList) = false from rfl] at P2
  unfold CcEnds at C1
  unfold FcEnds at C2 ⊢
  generalize str (1 :: 114 :: l) = s2 at C1 C2
  generalize str l = s3 at C2 ⊢
  clear h hs h2
  go_enter Tryz.func23, Tryz.ntmps23
  go_wp2_with fail
  refine (P1.out _).mono ?_
  rintro e w1 ⟨rfl, hw1⟩
  subst w1
  go_wp2_with fail
  refine (P2.out _).mono ?_
  rintro e w1 ⟨rfl, hw1⟩
  subst w1
  go_wp2_with fail
  refine (C1.out _).mono ?_
  rintro e w1 ⟨rfl, hb1⟩
  go_wp2_with fail
  refine (C2.out _).mono ?_
  rintro e w2 ⟨rfl, hb2⟩
  go_wp2_with fail
  go_ret2
  exact ⟨rfl, Below.then_ hb1 (Below.then_ ((Below.refl _ _).alloc (Nat.le_refl _) (.cells #[.string s2] 48)) hb2)⟩

set_option maxHeartbeats 4000000 in
set_option maxRecDepth 100000 in
theorem PeerDecode_any (s : ByteArray) (code : Nat) (l data : List UInt8) (w : World) (h : IsMh l code data) (hs : s.data.toList = mbT (1 :: 114 :: l)) (hl : l.length ≤ 1000000) :
    Calls Tryz.prog 8 #[.string s] w (NewBT l w) := by
  have C1 := Lib.hid (peerDecode_any s code l data w h hs hl)
  have K := Lib.hid fun (W : World) => conv_id l (by omega) W
  unfold FcEnds at C1
  generalize str l = s3 at C1 K
  clear h hs
  go_enter Tryz.func8, Tryz.ntmps8
  go_wp2_with fail
  refine C1.out.mono ?_
  rintro e w1 ⟨rfl, hb1⟩
  obtain ⟨v2, W2, hk, hv2, hb2⟩ := K.out w1
  clear C1 K
  go_wp2_with fail
  go_ret2
  exact ⟨_, rfl, hv2, Below.then_ hb1 hb2⟩

end Go.Proofs.YtilngifollpoeaaGreatFmt
