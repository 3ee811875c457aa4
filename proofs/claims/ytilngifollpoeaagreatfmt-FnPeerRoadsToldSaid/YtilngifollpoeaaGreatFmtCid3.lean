/- A CID of version 1 with the codec of keys: built; peer.ToCid. -/
import Derived.Test.YtilngifollpoeaaGreatFmtBuild
import Derived.Test.YtilngifollpoeaaGreatFmtCid2
import Derived.Test.YtilngifollpoeaaGreatFmtShelf
namespace Go.Proofs.YtilngifollpoeaaGreatFmt
open Go.RowKit

set_option maxHeartbeats 1000000 in
set_option maxRecDepth 100000 in
theorem UvarintSize_114 (w : World) :
    Calls Tryz.prog 69 #[.int .u64 114] w fun e w' => e = .returned (.int .i64 1) ∧ w' = w := by
  have C := Lib.hid (Tryz.bits_Len64 114 w (by decide) (by decide))
  go_enter Tryz.func69, Tryz.ntmps69
  go_wp2_with fail
  refine C.out.mono ?_
  rintro e w1 ⟨rfl, rfl⟩
  rw [show Lib.bitLen (Int.toNat 114) = 7 from by decide]
  go_wp2_with fail
  go_ret
  exact ⟨rfl, rfl⟩

set_option maxHeartbeats 1000000 in
set_option maxRecDepth 100000 in
theorem binPut_114 (g n c : Nat) (cs : Array Value) (t : TypeId) (w : World) (h : Blk w g t cs) (hn : 1 ≤ n) (_hc : n ≤ c) (h0 : 0 < cs.size) :
    Calls Tryz.prog 117 #[.slice (some ⟨g, 0, none⟩) n c, .int .u64 114] w fun e w' => e = .returned (.int .i64 1) ∧ w' = w.setCell ⟨g, 0, none⟩ (.int .u8 114) := by
  obtain ⟨x, hx⟩ : ∃ x, cs[0]? = some x := ⟨cs[0], by simp [h0]⟩
  have c0 : w.cell? ⟨g, 0, none⟩ = some x := (h.cell 0).trans hx
  have f0 := h.frozen 0
  go_enter Tryz.func117, Tryz.ntmps117
  go_wp2_with fail
  refine wp_loop_rounds 1 ?_
  rw [rounds_succ]
  go_wp2_with fail
  go_ret
  exact ⟨rfl, rfl⟩

set_option maxHeartbeats 1000000 in
set_option maxRecDepth 100000 in
theorem PutUvarint_114 (g n c : Nat) (cs : Array Value) (t : TypeId) (w : World) (h : Blk w g t cs) (hn : 1 ≤ n) (hc : n ≤ c) (h0 : 0 < cs.size) :
    Calls Tryz.prog 71 #[.slice (some ⟨g, 0, none⟩) n c, .int .u64 114] w fun e w' => e = .returned (.int .i64 1) ∧ w' = w.setCell ⟨g, 0, none⟩ (.int .u8 114) := by
  have C := Lib.hid (binPut_114 g n c cs t w h hn hc h0)
  go_enter Tryz.func71, Tryz.ntmps71
  go_wp2_with fail
  refine C.out.mono ?_
  rintro e w1 ⟨rfl, rfl⟩
  go_wp2_with fail
  go_ret
  exact ⟨rfl, rfl⟩

/-- gocid.NewCidV1 with the codec of keys: the CID of those bytes. -/
def NcEnds (l : List UInt8) (w : World) (e : Ending) (w' : World) : Prop := e = .returned (.agg #[.string (str (1 :: 114 :: l))]) ∧ Below w.heap.size w w'

set_option maxHeartbeats 4000000 in
set_option maxRecDepth 100000 in
theorem NewCidV1_any (b o n c : Nat) (l : List UInt8) (w : World) (hn : l.length = n) (h0 : 0 < n) (hm : n ≤ 1099511627776) (hb : b < w.heap.size) (hr : RdAt w b o l) :
    Calls Tryz.prog 49 #[.int .u64 114, .slice (some ⟨b, o, none⟩) n c] w (NcEnds l w) := by
  have C1 := Lib.hid fun W => UvarintSize_114 W
  have C2 := Lib.hid fun (W : World) (hbk : W.heap[w.heap.size + 1]? = some (.cells #[.pointer none, .slice none 0 0] 115 (0, 0))) (hBw : w.heap.size + 1 ≤ W.heap.size) (m : Nat) (hm : m ≤ 281474976710656) => Tryz.Builder_Grow_fresh (w.heap.size + 1) (w.heap.size + 1) m W (Nat.le_refl _) hbk hBw hm
  have C3 := Lib.hid fun (W : World) (h : BAt (w.heap.size + 1) (w.heap.size + 1) [] W) (hBw : w.heap.size + 1 ≤ W.heap.size) => WriteByte_any (w.heap.size + 1) (w.heap.size + 1) [] 1 W h (by simp) hBw
  have C4 := Lib.hid fun (W : World) (g n c : Nat) (cs : Array Value) (t : TypeId) (h : Blk W g t cs) (hn : 1 ≤ n) (hc : n ≤ c) (h0 : 0 < cs.size) => PutUvarint_114 g n c cs t W h hn hc h0
  have C5 := Lib.hid fun (W : World) (ab ao m cp : Nat) (l k : List UInt8) (h : BAt (w.heap.size + 1) (w.heap.size + 1) l W) (hm : k.length = m) (h0 : 0 < m) (hr : RdAt W ab ao k) (hlen : l.length + m ≤ 140737488355328) (hBw : w.heap.size + 1 ≤ W.heap.size) => Write_any (w.heap.size + 1) (w.heap.size + 1) ab ao m cp l k W h hm h0 hr hlen hBw
  have C6 := Lib.hid fun (W : World) (k : List UInt8) (h : BAt (w.heap.size + 1) (w.heap.size + 1) k W) (hBw : w.heap.size + 1 ≤ W.heap.size) => Tryz.Builder_String_any (w.heap.size + 1) (w.heap.size + 1) k W (.inr h) hBw
  have Hr := Lib.hid hr
  have Hl := Lib.hid hn
  have hw0 : Below (w.heap.size + 1) (w.alloc (.cells #[.string ⟨#[]⟩] 48)) ((w.alloc (.cells #[.string ⟨#[]⟩] 48)).alloc (.cells #[.pointer none, .slice none 0 0] 115)) := (Below.refl _ _).alloc (by simp) _
  have hbk0 : ((w.alloc (.cells #[.string ⟨#[]⟩] 48)).alloc (.cells #[.pointer none, .slice none 0 0] 115)).heap[w.heap.size + 1]? = some (.cells #[.pointer none, .slice none 0 0] 115 (0, 0)) := by
    have := Blk.new (w.alloc (.cells #[.string ⟨#[]⟩] 48)) 115 #[.pointer none, .slice none 0 0]
    simpa [Blk] using this
  clear hr hn
  go_enter Tryz.func49, Tryz.ntmps49
  go_wp2_with fail
  refine (C1.out _).mono ?_
  rintro e w1 ⟨rfl, rfl⟩
  go_wp2_with fail
  rw [show (2 : Int) + (n : Int) = ((n + 2 : Nat) : Int) from by omega]
  refine (C2.out _ hbk0 (by simp) _ (by omega)).mono ?_
  rintro e w2 ⟨rfl, h2, hb2⟩
  have hz2 := hb2.size
  simp at hz2
  go_wp2_with fail
  refine (C3.out _ h2 (by omega)).mono ?_
  rintro e w3 ⟨rfl, h3, hb3⟩
  have hz3 := hb3.size
  go_wp2_with fail
  have hk4 : Blk (w3.alloc (.cells (Array.replicate 10 (.int .u8 0)) 119)) w3.heap.size 119 (Array.replicate 10 (.int .u8 0)) := Blk.new _ _ _
  refine (C4.out _ _ 10 10 _ _ hk4 (by omega) (by omega) (by decide)).mono ?_
  rintro e w4 ⟨rfl, rfl⟩
  have h4 := h3.alloc_ (.cells ((Array.replicate 10 (.int .u8 0)).setIfInBounds 0 (.int .u8 114)) 119)
  have hk5 : Blk (w3.alloc (.cells ((Array.replicate 10 (.int .u8 0)).setIfInBounds 0 (.int .u8 114)) 119)) w3.heap.size 119 ((Array.replicate 10 (.int .u8 0)).setIfInBounds 0 (.int .u8 114)) := Blk.new _ _ _
  have hr5 := hk5.rd 0 [114] (fun j x hx => by
    match j, hx with
    | 0, hx => simp at hx; subst hx; rfl)
  go_wp2_with fail
  refine (C5.out _ w3.heap.size 0 1 10 [1] [114] h4 rfl (by decide) hr5 (by decide) (by simp; omega)).mono ?_
  rintro e w5 ⟨rfl, h5, hb5⟩
  have hb35 : Below (w.heap.size + 1) w3 w5 := ((Below.refl _ _).alloc (by omega) _).trans hb5
  have hb05 := (hw0.trans hb2).trans (hb3.trans hb35)
  have hz5 := hb35.size
  have hr6 : RdAt w5 b o l := Hr.out.below (((Below.refl w.heap.size w).alloc (Nat.le_refl _) _).trans (hb05.mono (by omega))) hb
  clear hk4 hk5 hr5 h4 h3
  go_wp2_with fail
  refine (C5.out _ b o n c ([1] ++ [114]) l h5 Hl.out h0 hr6 (by simp; omega) (by omega)).mono ?_
  rintro e w6 ⟨rfl, h6, hb6⟩
  have hz6 := hb6.size
  clear hr6 h5
  go_wp2_with fail
  refine (C6.out _ _ h6 (by omega)).mono ?_
  rintro e w7 ⟨rfl, hb7⟩
  have hb07 := (hb05.trans hb6).trans hb7
  have cz : w7.cell? ⟨w.heap.size, 0, none⟩ = (w.alloc (.cells #[.string ⟨#[]⟩] 48)).cell? ⟨w.heap.size, 0, none⟩ := hb07.cell (p := ⟨w.heap.size, 0, none⟩) (Nat.lt_succ_self _)
  have fz : w7.frozen? ⟨w.heap.size, 0, none⟩ = (w.alloc (.cells #[.string ⟨#[]⟩] 48)).frozen? ⟨w.heap.size, 0, none⟩ := hb07.frozen (p := ⟨w.heap.size, 0, none⟩) (Nat.lt_succ_self _)
  have hz7 := hb07.size
  simp at hz7
  go_wp2_with fail
  refine bodyPost_ret (v := .agg #[.string (str (1 :: 114 :: l))]) ?_ rfl ?_
  · simp only [results, Tryz.results49]
    go_simp
    rfl
  · exact ⟨rfl, (((Below.refl w.heap.size w).alloc (Nat.le_refl _) _).trans (hb07.mono (by omega))).setCell (p := ⟨w.heap.size, 0, none⟩) (Nat.le_refl _) _⟩

set_option maxHeartbeats 4000000 in
set_option maxRecDepth 100000 in
theorem ToCid_any (s : ByteArray) (l data : List UInt8) (code : Nat) (w : World) (h : IsMh l code data) (hs : s.data.toList = l) (hm : l.length ≤ 1099511627776) :
    Calls Tryz.prog 27 #[.string s] w (NcEnds l w) := by
  have h2 := h.two
  have hn : l.length = s.size := (size_list hs).symm
  rw [hn] at h2 hm
  have kc := fun (W : World) => Lib.run_convert_string_bytes (P := Tryz.prog) W 40 22 5 s Tryz.underlying40 Tryz.underlying22 Tryz.underlying5
  have R := bytesWorld_rd (w.alloc (.cells #[.string ⟨#[]⟩] 48)) 5 s hs (by unfold maxLen; omega)
  have hbW1 := bytesWorld_below (w.alloc (.cells #[.string ⟨#[]⟩] 48)) 5 s
  have hbW : Below w.heap.size w (Lib.bytesWorld (w.alloc (.cells #[.string ⟨#[]⟩] 48)) 5 s) := Below.then_ ((Below.refl _ _).alloc (Nat.le_refl _) _) hbW1
  obtain ⟨b, o, c, heq, hbb, hlc, hcm, hat⟩ := R
  injection heq with h1 h2' h3
  injection h1 with h1
  injection h1 with h1 h4
  subst h1 h4
  rw [hn, ← h3] at hlc
  rw [← h3] at hcm
  have hsa : (w.alloc (.cells #[.string ⟨#[]⟩] 48)).heap.size = w.heap.size + 1 := by simp
  rw [hsa] at hat hbb
  have C1 := Lib.hid (mhCast_any _ _ s.size _ code l data (Lib.bytesWorld (w.alloc (.cells #[.string ⟨#[]⟩] 48)) 5 s) h hn hlc (by unfold maxLen at hcm; omega) hbb hat)
  have C2 := Lib.hid fun (W' : World) (hb : Below (Lib.bytesWorld (w.alloc (.cells #[.string ⟨#[]⟩] 48)) 5 s).heap.size (Lib.bytesWorld (w.alloc (.cells #[.string ⟨#[]⟩] 48)) 5 s) W') => NewCidV1_any (w.heap.size + 1) 0 s.size (grownCap (w.alloc (.cells #[.string ⟨#[]⟩] 48)) s.size 0 5) l W' hn (by omega) hm (by have := hb.size; omega) (hat.below hb hbb)
  clear hat hs h hn hcm h3 hlc h2'
  go_enter Tryz.func27, Tryz.ntmps27
  go_wp2_with fail
  refine C1.out.mono ?_
  rintro e w1 ⟨rfl, hb1⟩
  have B1 := hbW1.trans (hb1.mono (by have := hbW1.size; simpa using this))
  have cz : w1.cell? ⟨w.heap.size, 0, none⟩ = (w.alloc (.cells #[.string ⟨#[]⟩] 48)).cell? ⟨w.heap.size, 0, none⟩ := B1.cell (p := ⟨w.heap.size, 0, none⟩) (by simp)
  have fz : w1.frozen? ⟨w.heap.size, 0, none⟩ = (w.alloc (.cells #[.string ⟨#[]⟩] 48)).frozen? ⟨w.heap.size, 0, none⟩ := B1.frozen (p := ⟨w.heap.size, 0, none⟩) (by simp)
  have z1 := B1.size
  simp at z1
  go_wp2_with fail
  refine (C2.out _ hb1).mono ?_
  rintro e w2 ⟨rfl, hb2⟩
  have cz2 : w2.cell? ⟨w.heap.size, 0, none⟩ = w1.cell? ⟨w.heap.size, 0, none⟩ := hb2.cell (p := ⟨w.heap.size, 0, none⟩) (by show w.heap.size < _; omega)
  have fz2 : w2.frozen? ⟨w.heap.size, 0, none⟩ = w1.frozen? ⟨w.heap.size, 0, none⟩ := hb2.frozen (p := ⟨w.heap.size, 0, none⟩) (by show w.heap.size < _; omega)
  have z2 := hb2.size
  go_wp2_with fail
  refine bodyPost_ret (v := .agg #[.string (str (1 :: 114 :: l))]) ?_ rfl ?_
  · simp only [results, Tryz.results27]
    go_simp
  · exact ⟨rfl, (Below.then_ (Below.then_ hbW hb1) hb2).setCell (p := ⟨w.heap.size, 0, none⟩) (Nat.le_refl _) _⟩
end Go.Proofs.YtilngifollpoeaaGreatFmt
