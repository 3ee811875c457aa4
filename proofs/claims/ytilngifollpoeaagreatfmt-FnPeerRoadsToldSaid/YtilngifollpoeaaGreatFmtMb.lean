/- multibase in base32 (small, no padding): Encode; Cid.String. -/
import Derived.Test.YtilngifollpoeaaGreatFmtB32x
import Derived.Test.YtilngifollpoeaaGreatFmtCid3
namespace Go.Proofs.YtilngifollpoeaaGreatFmt
open Go.RowKit

/-- The multibase text of bytes. -/
def mbT (l : List UInt8) : List UInt8 := 98 :: t32 smallA l

set_option maxHeartbeats 4000000 in
set_option maxRecDepth 100000 in
theorem mbEncode_any (b o n c : Nat) (l : List UInt8) (w : World) (hr : RdAt w b o l) (hn : l.length = n) (hb : b < w.heap.size) (hnc : n ≤ c) (hn1 : n ≤ 1099511627776) :
    Calls Tryz.prog 54 #[.int .i64 98, .slice (some ⟨b, o, none⟩) n c] w fun e w' => e = .returned (.tuple #[.string (str (mbT l)), .nilIface]) ∧ Below w.heap.size w w' := by
  have C1 := Lib.hid (StdLowerNoPad_any w)
  have C2 := Lib.hid fun (W : World) (g : Nat) (hW : Below w.heap.size w W) (hg : Blk W g 203 (encC (str smallA) (tabAt smallA 32) (-1))) => EncodeToString_any (str smallA) smallA l (tabAt smallA 32) g b o n c W rfl rfl hg (hr.below hW hb) hn (by have := hW.size; omega) hnc hn1
  have hsz : (str (t32 smallA l)).size = (n * 8 + 4) / 5 := by rw [str_size, t32_len, hn]
  have hadd : str (mbT l) = ⟨#[98]⟩ ++ str (t32 smallA l) := rfl
  clear hr hn
  go_enter Tryz.func54, Tryz.ntmps54
  go_wp2_with fail
  refine C1.out.mono ?_
  rintro e w1 ⟨g, rfl, hgw, hblk, hb1⟩
  go_wp2_with fail
  refine (C2.out _ _ hb1 hblk).mono ?_
  rintro e w2 ⟨rfl, hb2⟩
  generalize str (t32 smallA l) = tx at hsz hadd
  go_wp2_with fail
  go_ret2
  exact ⟨by rw [hadd]; rfl, Below.then_ hb1 hb2⟩

set_option maxHeartbeats 4000000 in
set_option maxRecDepth 100000 in
theorem CidString_any (s : ByteArray) (l : List UInt8) (w : World) (hs : s.data.toList = 1 :: 114 :: l) (hn : s.size ≤ 1099511627776) :
    Calls Tryz.prog 34 #[.agg #[.string s]] w fun e w' => e = .returned (.string (str (mbT (1 :: 114 :: l)))) ∧ Below w.heap.size w w' := by
  have C1 := Lib.hid fun W => Version_any s (114 :: l) W hs
  have C2 := Lib.hid fun W => Bytes_any s (1 :: 114 :: l) W hs (by simp) (by rw [← size_list hs]; unfold maxLen; omega)
  have C3 := Lib.hid fun (W : World) (b o n c : Nat) (hr : RdAt W b o (1 :: 114 :: l)) (hn : (1 :: 114 :: l).length = n) (hb : b < W.heap.size) (hnc : n ≤ c) (hn1 : n ≤ 1099511627776) => mbEncode_any b o n c _ W hr hn hb hnc hn1
  have hlen := size_list hs
  have Hlen := Lib.hid hlen
  clear hs hlen
  go_enter Tryz.func34, Tryz.ntmps34
  go_wp2_with fail
  refine (C1.out _).mono ?_
  rintro e w1 ⟨rfl, hb1⟩
  obtain ⟨hc1, hf1⟩ := bcell hb1
  go_wp2_with fail
  refine (C2.out _).mono ?_
  rintro e w2 ⟨v, rfl, hrd, hb2⟩
  obtain ⟨b, o, c, rfl, hbw, hlc, hcm, hat⟩ := hrd
  have C := Lib.hid (C3.out w2 b o s.size c hat Hlen.out.symm hbw (by rw [Hlen.out]; exact hlc) hn)
  rw [← Hlen.out]
  clear C1 C2 C3 hat hlc hcm hbw
  go_wp2_with fail
  refine C.out.mono ?_
  rintro e w3 ⟨rfl, hb3⟩
  clear C
  go_wp2_with fail
  go_ret
  exact ⟨rfl, Below.then_ ((Below.refl _ _).alloc (Nat.le_refl _) (.cells #[.string s] 48)) (Below.then_ hb1 (Below.then_ hb2 hb3))⟩
end Go.Proofs.YtilngifollpoeaaGreatFmt
