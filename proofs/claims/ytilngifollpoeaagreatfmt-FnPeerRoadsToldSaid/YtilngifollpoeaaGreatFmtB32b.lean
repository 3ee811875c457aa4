/- base32: EncodedLen; the two encodings that are used here. -/
import Derived.Test.YtilngifollpoeaaGreatFmtB32a
namespace Go.Proofs.YtilngifollpoeaaGreatFmt
open Go.RowKit

theorem size145 (s : ByteArray) (f : Nat → Int) (pad : Int) : (Tryz.prog.info? 203).map (·.size) = some (encC s f pad).size := by
  rw [encC_size]
  kernel_rfl

/-- An encoding that is made: its block is new. -/
def EnEnds (s : ByteArray) (a : List UInt8) (w : World) (e : Ending) (w' : World) : Prop :=
  ∃ g, e = .returned (.pointer (some ⟨g, 0, none⟩)) ∧ w.heap.size ≤ g ∧ Blk w' g 203 (encC s (tabAt a 32) (-1)) ∧ Below w.heap.size w w'

def smallA : List UInt8 := [97, 98, 99, 100, 101, 102, 103, 104, 105, 106, 107, 108, 109, 110, 111, 112, 113, 114, 115, 116, 117, 118, 119, 120, 121, 122, 50, 51, 52, 53, 54, 55]
def greatA : List UInt8 := [65, 66, 67, 68, 69, 70, 71, 72, 73, 74, 75, 76, 77, 78, 79, 80, 81, 82, 83, 84, 85, 86, 87, 88, 89, 90, 50, 51, 52, 53, 54, 55]

set_option maxHeartbeats 4000000 in
set_option maxRecDepth 100000 in
theorem RawStd_any (w : World) :
    Calls Tryz.prog 102 #[] w (EnEnds (str greatA) greatA w) := by
  have C1 := Lib.hid (NewEncodingCI_any (str greatA) greatA w rfl rfl)
  have C2 := Lib.hid fun (W : World) => WithPadding_any (str greatA) (tabAt greatA 32) 61 W
  go_enter Tryz.func102, Tryz.ntmps102
  go_wp2_with fail
  refine C1.out.mono ?_
  rintro e w1 ⟨rfl, hblk, hb1⟩
  have hz := hblk.lt
  have hsz : (Tryz.prog.info? 203).map (·.size) = some (encC (str greatA) (tabAt greatA 32) 61).size := size145 _ _ _
  clear C1
  generalize hcs : encC (str greatA) (tabAt greatA 32) 61 = cs at hblk C2 hsz
  go_wp2_with fail
  refine wp_load_row 203 (.tmp 2) rfl w.heap.size rfl 203 cs (0, 0) _ hblk Tryz.underlying203 rfl hsz ?_
  clear hblk hsz hcs
  go_wp2_with fail
  refine (C2.out _).mono ?_
  rintro e w2 ⟨rfl, hblk, hb2⟩
  clear C2
  go_wp2_with fail
  go_ret
  exact ⟨_, rfl, by omega, hblk, Below.then_ hb1 hb2⟩

set_option maxHeartbeats 4000000 in
set_option maxRecDepth 100000 in
theorem StdLowerPad_any (w : World) :
    Calls Tryz.prog 82 #[] w fun e w' => e = .returned (.pointer (some ⟨w.heap.size, 0, none⟩)) ∧ Blk w' w.heap.size 203 (encC (str smallA) (tabAt smallA 32) 61) ∧ Below w.heap.size w w' := by
  have C1 := Lib.hid (NewEncodingCI_any (str smallA) smallA w rfl rfl)
  go_enter Tryz.func82, Tryz.ntmps82
  go_wp2_with fail
  refine C1.out.mono ?_
  rintro e w1 ⟨rfl, hblk, hb1⟩
  clear C1
  go_wp2_with fail
  go_ret
  exact ⟨rfl, hblk, hb1⟩

set_option maxHeartbeats 4000000 in
set_option maxRecDepth 100000 in
theorem StdLowerNoPad_any (w : World) :
    Calls Tryz.prog 77 #[] w (EnEnds (str smallA) smallA w) := by
  have C1 := Lib.hid (StdLowerPad_any w)
  have C2 := Lib.hid fun (W : World) => WithPadding_any (str smallA) (tabAt smallA 32) 61 W
  go_enter Tryz.func77, Tryz.ntmps77
  go_wp2_with fail
  refine C1.out.mono ?_
  rintro e w1 ⟨rfl, hblk, hb1⟩
  have hz := hblk.lt
  have hsz : (Tryz.prog.info? 203).map (·.size) = some (encC (str smallA) (tabAt smallA 32) 61).size := size145 _ _ _
  clear C1
  generalize hcs : encC (str smallA) (tabAt smallA 32) 61 = cs at hblk C2 hsz
  go_wp2_with fail
  refine wp_load_row 203 (.tmp 2) rfl w.heap.size rfl 203 cs (0, 0) _ hblk Tryz.underlying203 rfl hsz ?_
  clear hblk hsz hcs
  go_wp2_with fail
  refine (C2.out _).mono ?_
  rintro e w2 ⟨rfl, hblk, hb2⟩
  clear C2
  go_wp2_with fail
  go_ret
  exact ⟨_, rfl, by omega, hblk, Below.then_ hb1 hb2⟩

set_option maxHeartbeats 1000000 in
set_option maxRecDepth 100000 in
theorem EncodedLen_any (g n : Nat) (s : ByteArray) (f : Nat → Int) (w : World) (h : Blk w g 203 (encC s f (-1))) (hn : n ≤ 1099511627776) :
    Calls Tryz.prog 123 #[.pointer (some ⟨g, 0, none⟩), .int .i64 n] w fun e w' => e = .returned (.int .i64 ((n * 8 + 4) / 5 : Nat)) ∧ w' = w := by
  have c := (h.cell 257).trans (encC_pad _ _ _)
  clear h
  go_enter Tryz.func123, Tryz.ntmps123
  go_wp2_with fail
  go_ret
  exact ⟨by first | rfl | (congr 2), rfl⟩

end Go.Proofs.YtilngifollpoeaaGreatFmt
