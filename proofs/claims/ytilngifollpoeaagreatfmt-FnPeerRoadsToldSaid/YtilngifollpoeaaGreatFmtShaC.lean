/- SHA-256: words as bytes; what the padding writes. -/
import Derived.Test.YtilngifollpoeaaGreatFmtShaB
import Derived.Test.YtilngifollpoeaaGreatFmtB32x
/- SHA-256: words laid as bytes; a new digest. -/
namespace Go.Proofs.YtilngifollpoeaaGreatFmt
open Go.RowKit

/-- A byte of a number. -/
def byteAt (v : Int) (s : Nat) : Nat := (v / 2 ^ s % 256).toNat

theorem byteAt_int (v : Int) (s : Nat) : v / 2 ^ s % 256 = (byteAt v s : Int) := by
  unfold byteAt
  rw [Int.toNat_of_nonneg (Int.emod_nonneg _ (by decide))]

theorem byteAt_lt (v : Int) (s : Nat) : byteAt v s < 256 := by
  have h := Int.emod_lt_of_pos (v / 2 ^ s) (show (0 : Int) < 256 by decide)
  rw [byteAt_int] at h
  omega

/-- Four bytes, eight bytes, the greatest first. -/
def put4 (F : Nat → Nat) (o : Nat) (v : Int) : Nat → Nat := updF (updF (updF (updF F o (byteAt v 24)) (o + 1) (byteAt v 16)) (o + 2) (byteAt v 8)) (o + 3) (byteAt v 0)
def put8 (F : Nat → Nat) (o : Nat) (v : Int) : Nat → Nat := updF (updF (updF (updF (updF (updF (updF (updF F o (byteAt v 56)) (o + 1) (byteAt v 48)) (o + 2) (byteAt v 40)) (o + 3) (byteAt v 32)) (o + 4) (byteAt v 24)) (o + 5) (byteAt v 16)) (o + 6) (byteAt v 8)) (o + 7) (byteAt v 0)

theorem updF_lt {F : Nat → Nat} {i v : Nat} (hF : ∀ j, F j < 256) (hv : v < 256) (j : Nat) : updF F i v j < 256 := by
  unfold updF
  split
  · exact hv
  · exact hF j
theorem put4_lt {F : Nat → Nat} {o : Nat} {v : Int} (hF : ∀ j, F j < 256) (j : Nat) : put4 F o v j < 256 :=
  updF_lt (updF_lt (updF_lt (updF_lt hF (byteAt_lt _ _)) (byteAt_lt _ _)) (byteAt_lt _ _)) (byteAt_lt _ _) j
theorem put8_lt {F : Nat → Nat} {o : Nat} {v : Int} (hF : ∀ j, F j < 256) (j : Nat) : put8 F o v j < 256 :=
  updF_lt (updF_lt (updF_lt (updF_lt (updF_lt (updF_lt (updF_lt (updF_lt hF (byteAt_lt _ _)) (byteAt_lt _ _)) (byteAt_lt _ _)) (byteAt_lt _ _)) (byteAt_lt _ _)) (byteAt_lt _ _)) (byteAt_lt _ _)) (byteAt_lt _ _) j

set_option maxHeartbeats 1000000 in
set_option maxRecDepth 100000 in
theorem be32_any (d o n c m : Nat) (T : TypeId) (F : Nat → Nat) (v : Int) (w : World) (hd : Blk w d T (cellsF m F)) (h4 : 4 ≤ n) (ho : o + 4 ≤ m) :
    Calls Tryz.prog 171 #[.slice (some ⟨d, o, none⟩) n c, .int .u32 v] w fun e w' => e = .returned (.tuple #[]) ∧ Blk w' d T (cellsF m (put4 F o v)) ∧ But d w w' := by
  have c0 := (hd.cell o).trans (cellsF_at m F (by omega))
  have c1 := (hd.cell (o + 1)).trans (cellsF_at m F (by omega))
  have c2 := (hd.cell (o + 2)).trans (cellsF_at m F (by omega))
  have c3 := (hd.cell (o + 3)).trans (cellsF_at m F (by omega))
  have f0 := hd.frozen o
  have f1 := hd.frozen (o + 1)
  have f2 := hd.frozen (o + 2)
  have f3 := hd.frozen (o + 3)
  have i0 : (0 : Int) < n := by omega
  have i1 : (1 : Int) < n := by omega
  have i2 : (2 : Int) < n := by omega
  have i3 : (3 : Int) < n := by omega
  have e0 : v / 16777216 % 256 = (byteAt v 24 : Int) := byteAt_int v 24
  have e1 : v / 65536 % 256 = (byteAt v 16 : Int) := byteAt_int v 16
  have e2 : v / 256 % 256 = (byteAt v 8 : Int) := byteAt_int v 8
  have e3 : v % 256 = (byteAt v 0 : Int) := by rw [← byteAt_int v 0]; simp
  have H := Lib.hid ((((hd.set_ o (.int .u8 (byteAt v 24 : Int))).set_ (o + 1) (.int .u8 (byteAt v 16 : Int))).set_ (o + 2) (.int .u8 (byteAt v 8 : Int))).set_ (o + 3) (.int .u8 (byteAt v 0 : Int)))
  rw [cellsF_set, cellsF_set, cellsF_set, cellsF_set] at H
  have H2 := Lib.hid ((((But.setCell (World.grownBy.refl w (some d)) o (.int .u8 (byteAt v 24 : Int))).setCell (o + 1) (.int .u8 (byteAt v 16 : Int))).setCell (o + 2) (.int .u8 (byteAt v 8 : Int))).setCell (o + 3) (.int .u8 (byteAt v 0 : Int)))
  clear hd
  go_enter Tryz.func171, Tryz.ntmps171
  go_wp2_with fail
  go_end0
  exact ⟨rfl, H.out, H2.out⟩

set_option maxHeartbeats 2000000 in
set_option maxRecDepth 100000 in
theorem be64_any (d o n c m : Nat) (T : TypeId) (F : Nat → Nat) (v : Int) (w : World) (hd : Blk w d T (cellsF m F)) (h8 : 8 ≤ n) (ho : o + 8 ≤ m) :
    Calls Tryz.prog 168 #[.slice (some ⟨d, o, none⟩) n c, .int .u64 v] w fun e w' => e = .returned (.tuple #[]) ∧ Blk w' d T (cellsF m (put8 F o v)) ∧ But d w w' := by
  have c0 := (hd.cell o).trans (cellsF_at m F (by omega))
  have c1 := (hd.cell (o + 1)).trans (cellsF_at m F (by omega))
  have c2 := (hd.cell (o + 2)).trans (cellsF_at m F (by omega))
  have c3 := (hd.cell (o + 3)).trans (cellsF_at m F (by omega))
  have c4 := (hd.cell (o + 4)).trans (cellsF_at m F (by omega))
  have c5 := (hd.cell (o + 5)).trans (cellsF_at m F (by omega))
  have c6 := (hd.cell (o + 6)).trans (cellsF_at m F (by omega))
  have c7 := (hd.cell (o + 7)).trans (cellsF_at m F (by omega))
  have f0 := hd.frozen o
  have f1 := hd.frozen (o + 1)
  have f2 := hd.frozen (o + 2)
  have f3 := hd.frozen (o + 3)
  have f4 := hd.frozen (o + 4)
  have f5 := hd.frozen (o + 5)
  have f6 := hd.frozen (o + 6)
  have f7 := hd.frozen (o + 7)
  have i0 : (0 : Int) < n := by omega
  have i1 : (1 : Int) < n := by omega
  have i2 : (2 : Int) < n := by omega
  have i3 : (3 : Int) < n := by omega
  have i4 : (4 : Int) < n := by omega
  have i5 : (5 : Int) < n := by omega
  have i6 : (6 : Int) < n := by omega
  have i7 : (7 : Int) < n := by omega
  have d0 : v / 72057594037927936 % 256 = (byteAt v 56 : Int) := byteAt_int v 56
  have d1 : v / 281474976710656 % 256 = (byteAt v 48 : Int) := byteAt_int v 48
  have d2 : v / 1099511627776 % 256 = (byteAt v 40 : Int) := byteAt_int v 40
  have d3 : v / 4294967296 % 256 = (byteAt v 32 : Int) := byteAt_int v 32
  have e0 : v / 16777216 % 256 = (byteAt v 24 : Int) := byteAt_int v 24
  have e1 : v / 65536 % 256 = (byteAt v 16 : Int) := byteAt_int v 16
  have e2 : v / 256 % 256 = (byteAt v 8 : Int) := byteAt_int v 8
  have e3 : v % 256 = (byteAt v 0 : Int) := by rw [← byteAt_int v 0]; simp
  have H := Lib.hid ((((((((hd.set_ o (.int .u8 (byteAt v 56 : Int))).set_ (o + 1) (.int .u8 (byteAt v 48 : Int))).set_ (o + 2) (.int .u8 (byteAt v 40 : Int))).set_ (o + 3) (.int .u8 (byteAt v 32 : Int))).set_ (o + 4) (.int .u8 (byteAt v 24 : Int))).set_ (o + 5) (.int .u8 (byteAt v 16 : Int))).set_ (o + 6) (.int .u8 (byteAt v 8 : Int))).set_ (o + 7) (.int .u8 (byteAt v 0 : Int)))
  rw [cellsF_set, cellsF_set, cellsF_set, cellsF_set, cellsF_set, cellsF_set, cellsF_set, cellsF_set] at H
  have H2 := Lib.hid ((((((((But.setCell (World.grownBy.refl w (some d)) o (.int .u8 (byteAt v 56 : Int))).setCell (o + 1) (.int .u8 (byteAt v 48 : Int))).setCell (o + 2) (.int .u8 (byteAt v 40 : Int))).setCell (o + 3) (.int .u8 (byteAt v 32 : Int))).setCell (o + 4) (.int .u8 (byteAt v 24 : Int))).setCell (o + 5) (.int .u8 (byteAt v 16 : Int))).setCell (o + 6) (.int .u8 (byteAt v 8 : Int))).setCell (o + 7) (.int .u8 (byteAt v 0 : Int)))
  clear hd
  go_enter Tryz.func168, Tryz.ntmps168
  go_wp2_with fail
  go_end0
  exact ⟨rfl, H.out, H2.out⟩

set_option maxHeartbeats 1000000 in
set_option maxRecDepth 100000 in
theorem bE32_any (d o n c m : Nat) (T : TypeId) (F : Nat → Nat) (v : Int) (w : World) (hd : Blk w d T (cellsF m F)) (h4 : 4 ≤ n) (ho : o + 4 ≤ m) :
    Calls Tryz.prog 250 #[.slice (some ⟨d, o, none⟩) n c, .int .u32 v] w fun e w' => e = .returned (.tuple #[]) ∧ Blk w' d T (cellsF m (put4 F o v)) ∧ But d w w' := by
  have C := Lib.hid (be32_any d o n c m T F v w hd h4 ho)
  clear hd
  go_enter Tryz.func250, Tryz.ntmps250
  go_wp2_with fail
  refine C.out.mono ?_
  rintro e w1 ⟨rfl, h1, h2⟩
  have H := Lib.hid h1
  clear C h1
  go_wp2_with fail
  go_end0
  exact ⟨rfl, H.out, h2⟩

set_option maxHeartbeats 1000000 in
set_option maxRecDepth 100000 in
theorem bE64_any (d o n c m : Nat) (T : TypeId) (F : Nat → Nat) (v : Int) (w : World) (hd : Blk w d T (cellsF m F)) (h8 : 8 ≤ n) (ho : o + 8 ≤ m) :
    Calls Tryz.prog 249 #[.slice (some ⟨d, o, none⟩) n c, .int .u64 v] w fun e w' => e = .returned (.tuple #[]) ∧ Blk w' d T (cellsF m (put8 F o v)) ∧ But d w w' := by
  have C := Lib.hid (be64_any d o n c m T F v w hd h8 ho)
  clear hd
  go_enter Tryz.func249, Tryz.ntmps249
  go_wp2_with fail
  refine C.out.mono ?_
  rintro e w1 ⟨rfl, h1, h2⟩
  have H := Lib.hid h1
  clear C h1
  go_wp2_with fail
  go_end0
  exact ⟨rfl, H.out, h2⟩
end Go.Proofs.YtilngifollpoeaaGreatFmt

/- SHA-256: a new digest; the last block. -/
namespace Go.Proofs.YtilngifollpoeaaGreatFmt
open Go.RowKit

theorem zero75 : (#[Value.int .u32 0, Value.int .u32 0, Value.int .u32 0, Value.int .u32 0, Value.int .u32 0, Value.int .u32 0, Value.int .u32 0, Value.int .u32 0, Value.int .u8 0, Value.int .u8 0, Value.int .u8 0, Value.int .u8 0, Value.int .u8 0, Value.int .u8 0, Value.int .u8 0, Value.int .u8 0, Value.int .u8 0, Value.int .u8 0, Value.int .u8 0, Value.int .u8 0, Value.int .u8 0, Value.int .u8 0, Value.int .u8 0, Value.int .u8 0, Value.int .u8 0, Value.int .u8 0, Value.int .u8 0, Value.int .u8 0, Value.int .u8 0, Value.int .u8 0, Value.int .u8 0, Value.int .u8 0, Value.int .u8 0, Value.int .u8 0, Value.int .u8 0, Value.int .u8 0, Value.int .u8 0, Value.int .u8 0, Value.int .u8 0, Value.int .u8 0, Value.int .u8 0, Value.int .u8 0, Value.int .u8 0, Value.int .u8 0, Value.int .u8 0, Value.int .u8 0, Value.int .u8 0, Value.int .u8 0, Value.int .u8 0, Value.int .u8 0, Value.int .u8 0, Value.int .u8 0, Value.int .u8 0, Value.int .u8 0, Value.int .u8 0, Value.int .u8 0, Value.int .u8 0, Value.int .u8 0, Value.int .u8 0, Value.int .u8 0, Value.int .u8 0, Value.int .u8 0, Value.int .u8 0, Value.int .u8 0, Value.int .u8 0, Value.int .u8 0, Value.int .u8 0, Value.int .u8 0, Value.int .u8 0, Value.int .u8 0, Value.int .u8 0, Value.int .u8 0, Value.int .i64 0, Value.int .u64 0, Value.bool false] : Array Value) = digC (fun _ => 0) (fun _ => (((0 : UInt8).toNat : Nat) : Int)) 0 0 := by rfl
theorem zero32 : (#[Value.int .u8 0, Value.int .u8 0, Value.int .u8 0, Value.int .u8 0, Value.int .u8 0, Value.int .u8 0, Value.int .u8 0, Value.int .u8 0, Value.int .u8 0, Value.int .u8 0, Value.int .u8 0, Value.int .u8 0, Value.int .u8 0, Value.int .u8 0, Value.int .u8 0, Value.int .u8 0, Value.int .u8 0, Value.int .u8 0, Value.int .u8 0, Value.int .u8 0, Value.int .u8 0, Value.int .u8 0, Value.int .u8 0, Value.int .u8 0, Value.int .u8 0, Value.int .u8 0, Value.int .u8 0, Value.int .u8 0, Value.int .u8 0, Value.int .u8 0, Value.int .u8 0, Value.int .u8 0] : Array Value) = cellsF 32 (fun _ => 0) := by rfl
theorem zero72 : (#[Value.int .u8 0, Value.int .u8 0, Value.int .u8 0, Value.int .u8 0, Value.int .u8 0, Value.int .u8 0, Value.int .u8 0, Value.int .u8 0, Value.int .u8 0, Value.int .u8 0, Value.int .u8 0, Value.int .u8 0, Value.int .u8 0, Value.int .u8 0, Value.int .u8 0, Value.int .u8 0, Value.int .u8 0, Value.int .u8 0, Value.int .u8 0, Value.int .u8 0, Value.int .u8 0, Value.int .u8 0, Value.int .u8 0, Value.int .u8 0, Value.int .u8 0, Value.int .u8 0, Value.int .u8 0, Value.int .u8 0, Value.int .u8 0, Value.int .u8 0, Value.int .u8 0, Value.int .u8 0, Value.int .u8 0, Value.int .u8 0, Value.int .u8 0, Value.int .u8 0, Value.int .u8 0, Value.int .u8 0, Value.int .u8 0, Value.int .u8 0, Value.int .u8 0, Value.int .u8 0, Value.int .u8 0, Value.int .u8 0, Value.int .u8 0, Value.int .u8 0, Value.int .u8 0, Value.int .u8 0, Value.int .u8 0, Value.int .u8 0, Value.int .u8 0, Value.int .u8 0, Value.int .u8 0, Value.int .u8 0, Value.int .u8 0, Value.int .u8 0, Value.int .u8 0, Value.int .u8 0, Value.int .u8 0, Value.int .u8 0, Value.int .u8 0, Value.int .u8 0, Value.int .u8 0, Value.int .u8 0, Value.int .u8 0, Value.int .u8 0, Value.int .u8 0, Value.int .u8 0, Value.int .u8 0, Value.int .u8 0, Value.int .u8 0, Value.int .u8 0] : Array Value) = cellsF 72 (fun _ => 0) := by rfl

/-- The first state. -/
def h0F : Nat → Int
  | 0 => 1779033703
  | 1 => 3144134277
  | 2 => 1013904242
  | 3 => 2773480762
  | 4 => 1359893119
  | 5 => 2600822924
  | 6 => 528734635
  | 7 => 1541459225
  | _ => 0

set_option maxHeartbeats 2000000 in
set_option maxRecDepth 100000 in
theorem Reset_any (g : Nat) (h : Nat → Int) (x : Nat → UInt8) (nx len : Int) (w : World) (hg : Blk w g 212 (digC h (fun j => ((x j).toNat : Int)) nx len)) :
    Calls Tryz.prog 159 #[.pointer (some ⟨g, 0, none⟩)] w fun e w' => e = .returned (.tuple #[]) ∧ DgAt w' g ⟨h0F, x, 0, 0⟩ ∧ But g w w' := by
  have c0 := (hg.cell 0).trans (digC_h h (fun j => ((x j).toNat : Int)) nx len (by decide : 0 < 8))
  have c1 := (hg.cell 1).trans (digC_h h (fun j => ((x j).toNat : Int)) nx len (by decide : 1 < 8))
  have c2 := (hg.cell 2).trans (digC_h h (fun j => ((x j).toNat : Int)) nx len (by decide : 2 < 8))
  have c3 := (hg.cell 3).trans (digC_h h (fun j => ((x j).toNat : Int)) nx len (by decide : 3 < 8))
  have c4 := (hg.cell 4).trans (digC_h h (fun j => ((x j).toNat : Int)) nx len (by decide : 4 < 8))
  have c5 := (hg.cell 5).trans (digC_h h (fun j => ((x j).toNat : Int)) nx len (by decide : 5 < 8))
  have c6 := (hg.cell 6).trans (digC_h h (fun j => ((x j).toNat : Int)) nx len (by decide : 6 < 8))
  have c7 := (hg.cell 7).trans (digC_h h (fun j => ((x j).toNat : Int)) nx len (by decide : 7 < 8))
  have c72 := (hg.cell 72).trans (digC_get h (fun j => ((x j).toNat : Int)) nx len (by decide : 72 < 75))
  simp at c72
  have c73 := (hg.cell 73).trans (digC_get h (fun j => ((x j).toNat : Int)) nx len (by decide : 73 < 75))
  simp at c73
  have c74 := (hg.cell 74).trans (digC_get h (fun j => ((x j).toNat : Int)) nx len (by decide : 74 < 75))
  simp at c74
  have f0 := hg.frozen 0
  have f1 := hg.frozen 1
  have f2 := hg.frozen 2
  have f3 := hg.frozen 3
  have f4 := hg.frozen 4
  have f5 := hg.frozen 5
  have f6 := hg.frozen 6
  have f7 := hg.frozen 7
  have f72 := hg.frozen 72
  have f73 := hg.frozen 73
  have k1 := ((((((((((hg).set_ 0 (.int .u32 1779033703)).set_ 1 (.int .u32 3144134277)).set_ 2 (.int .u32 1013904242)).set_ 3 (.int .u32 2773480762)).set_ 4 (.int .u32 1359893119)).set_ 5 (.int .u32 2600822924)).set_ 6 (.int .u32 528734635)).set_ 7 (.int .u32 1541459225)).set_ 72 (.int .i64 0)).set_ 73 (.int .u64 0)
  rw [digC_set _ _ _ _ (by decide), digC_set _ _ _ _ (by decide), digC_set _ _ _ _ (by decide), digC_set _ _ _ _ (by decide), digC_set _ _ _ _ (by decide), digC_set _ _ _ _ (by decide), digC_set _ _ _ _ (by decide), digC_set _ _ _ _ (by decide), digC_nx, digC_len] at k1
  rw [digC_ext (h := updZ (updZ (updZ (updZ (updZ (updZ (updZ (updZ (h) 0 1779033703) 1 3144134277) 2 1013904242) 3 2773480762) 4 1359893119) 5 2600822924) 6 528734635) 7 1541459225) (h' := h0F) (x' := fun j => ((x j).toNat : Int)) (fun i hi => by
    match i, hi with
    | 0, _ => rfl
    | 1, _ => rfl
    | 2, _ => rfl
    | 3, _ => rfl
    | 4, _ => rfl
    | 5, _ => rfl
    | 6, _ => rfl
    | 7, _ => rfl
    | i + 8, h => omega) (fun _ _ => rfl)] at k1
  have H := Lib.hid k1
  have H2 := Lib.hid (But.setCell (But.setCell (But.setCell (But.setCell (But.setCell (But.setCell (But.setCell (But.setCell (But.setCell (But.setCell (World.grownBy.refl w (some g)) 0 (.int .u32 1779033703)) 1 (.int .u32 3144134277)) 2 (.int .u32 1013904242)) 3 (.int .u32 2773480762)) 4 (.int .u32 1359893119)) 5 (.int .u32 2600822924)) 6 (.int .u32 528734635)) 7 (.int .u32 1541459225)) 72 (.int .i64 0)) 73 (.int .u64 0))
  clear hg k1
  go_enter Tryz.func159, Tryz.ntmps159
  go_wp2_with fail
  go_end0
  exact ⟨rfl, H.out, H2.out⟩

set_option maxHeartbeats 2000000 in
set_option maxRecDepth 100000 in
theorem fNew_any (w : World) :
    Calls Tryz.prog 138 #[] w fun e w' => e = .returned (.pointer (some ⟨w.heap.size, 0, none⟩)) ∧ DgAt w' w.heap.size ⟨h0F, fun _ => 0, 0, 0⟩ ∧ Below w.heap.size w w' ∧ w.heap.size < w'.heap.size := by
  have C := Lib.hid fun (W : World) (hg : Blk W w.heap.size 212 (digC (fun _ => 0) (fun _ => (((0 : UInt8).toNat : Nat) : Int)) 0 0)) => Reset_any w.heap.size (fun _ => 0) (fun _ => 0) 0 0 W hg
  rw [← zero75] at C
  go_enter Tryz.func138, Tryz.ntmps138
  go_wp2_with fail
  refine (C.out _ (Blk.new w _ _)).mono ?_
  rintro e w1 ⟨rfl, h1, h2⟩
  have H := Lib.hid h1
  clear C h1
  go_wp2_with fail
  go_ret
  refine ⟨rfl, H.out, ((Below.refl _ w).alloc (Nat.le_refl _) _).trans (But.below h2 (Nat.le_refl _) (by simp)), ?_⟩
  have := h2.size
  simp at this
  omega

set_option maxHeartbeats 1000000 in
set_option maxRecDepth 100000 in
theorem sNew_any (w : World) :
    Calls Tryz.prog 96 #[] w fun e w' => e = .returned (.iface 175 (.pointer (some ⟨w.heap.size, 0, none⟩))) ∧ DgAt w' w.heap.size ⟨h0F, fun _ => 0, 0, 0⟩ ∧ Below w.heap.size w w' ∧ w.heap.size < w'.heap.size := by
  have C := Lib.hid (fNew_any w)
  go_enter Tryz.func96, Tryz.ntmps96
  go_wp2_with fail
  refine C.out.mono ?_
  rintro e w1 ⟨rfl, h1, h2, h3⟩
  have H := Lib.hid h1
  clear C h1
  go_wp2_with fail
  go_ret
  exact ⟨rfl, H.out, h2, h3⟩

set_option maxHeartbeats 1000000 in
set_option maxRecDepth 100000 in
theorem GetSha_any (w : World) :
    Calls Tryz.prog 57 #[.int .u64 18, .int .i64 (-1)] w fun e w' => e = .returned (.tuple #[.iface 175 (.pointer (some ⟨w.heap.size, 0, none⟩)), .nilIface]) ∧ DgAt w' w.heap.size ⟨h0F, fun _ => 0, 0, 0⟩ ∧ Below w.heap.size w w' ∧ w.heap.size < w'.heap.size := by
  have C := Lib.hid (sNew_any w)
  go_enter Tryz.func57, Tryz.ntmps57
  go_wp2_with fail
  refine C.out.mono ?_
  rintro e w1 ⟨rfl, h1, h2, h3⟩
  have H := Lib.hid h1
  clear C h1
  go_wp2_with fail
  go_ret2
  exact ⟨rfl, H.out, h2, h3⟩
end Go.Proofs.YtilngifollpoeaaGreatFmt
