/- base32: EncodeToString, decodeInPlace, DecodeString. -/
import Derived.Test.YtilngifollpoeaaGreatFmtB32e
import Derived.Test.YtilngifollpoeaaGreatFmtBase
import Derived.Test.YtilngifollpoeaaGreatFmtCid2
import Derived.Laws.MakeOwn
namespace Go.Proofs.YtilngifollpoeaaGreatFmt
open Go.RowKit

/-- The text of bytes in the letters a. -/
def t32 (a l : List UInt8) : List UInt8 := (e32 (l.map (·.toNat))).map fun q => a.getD q 0

theorem t32_len (a l : List UInt8) : (t32 a l).length = (l.length * 8 + 4) / 5 := by
  simp [t32, e32_len]
theorem t32_at (a l : List UInt8) {i : Nat} {x : UInt8} (h : (t32 a l)[i]? = some x) : elF a l i = x.toNat := by
  unfold t32 at h
  rw [List.getElem?_map] at h
  obtain ⟨q, hq, rfl⟩ := Option.map_eq_some_iff.1 h
  unfold elF
  rw [List.getD_eq_getElem?_getD (l := e32 _), hq]
  rfl

theorem infoByte2 : (Tryz.prog.info? 5).map (fun i => (i.zero, i.size, i.bytes)) = some (some (.int .u8 0), 1, 1) := by kernel_rfl

theorem madeBytes (n : Nat) : madeCells (Value.int .u8 0).cells (n * 1) = cellsF n (fun _ => 0) := by
  rw [Nat.mul_one]
  apply Array.ext
  · rw [size_madeCells, cellsF_size]
  · intro i h1 h2
    simp [madeCells, cellsF, Value.cells, Nat.mod_one]

set_option maxHeartbeats 4000000 in
set_option maxRecDepth 100000 in
theorem EncodeToString_any (s : ByteArray) (a l : List UInt8) (f : Nat → Int) (g b o n c : Nat) (w : World) (hs : s.data.toList = a) (ha : a.length = 32)
    (hg : Blk w g 203 (encC s f (-1))) (hr : RdAt w b o l) (hn : l.length = n) (hb : b < w.heap.size) (hnc : n ≤ c) (hn1 : n ≤ 1099511627776) :
    Calls Tryz.prog 78 #[.pointer (some ⟨g, 0, none⟩), .slice (some ⟨b, o, none⟩) n c] w fun e w' => e = .returned (.string (str (t32 a l))) ∧ Below w.heap.size w w' := by
  have hgl := hg.lt
  have C1 := Lib.hid (EncodedLen_any g n s f w hg hn1)
  obtain ⟨m, hm⟩ : ∃ m, m = (n * 8 + 4) / 5 := ⟨_, rfl⟩
  rw [← hm] at C1
  have W1 : Below w.heap.size w (w.alloc (.cells (cellsF m (fun _ => 0)) 5)) := (Below.refl _ _).alloc (Nat.le_refl _) _
  have C2 := Lib.hid (Encode_any s a l f g w.heap.size b o n c m m (w.alloc (.cells (cellsF m (fun _ => 0)) 5)) hs ha (hg.alloc _) hgl (hr.below W1 hb) hn hb hnc hn1 (Blk.new _ _ _) hm (Nat.le_refl _))
  have hm1 : m ≤ 2199023255552 := by omega
  have kmk : (Instr.makeSlice 22 (.int .i64 m) (.int .i64 m)).run Tryz.prog w = .ok (.slice (some ⟨w.heap.size, 0, none⟩) m m) (w.alloc (.cells (cellsF m (fun _ => 0)) 5)) := by
    obtain ⟨i0, hi, hi3⟩ := Option.map_eq_some_iff.1 infoByte2
    obtain ⟨hz0, hz12⟩ := Prod.mk.inj hi3
    obtain ⟨hz1, hz2⟩ := Prod.mk.inj hz12
    have h := run_make (P := Tryz.prog) w 22 5 i0 (.int .u8 0) Tryz.underlying22 hi hz0 .i64 .i64 m m (by omega) (Int.le_refl _) (by rw [hz2]; omega) (by omega)
    rw [hz1, Int.toNat_natCast, madeBytes] at h
    exact h
  have K := Lib.hid fun (W : World) (h : Blk W w.heap.size 5 (cellsF m (elF a l))) => conv_rd (P := Tryz.prog) W Tryz.underlying22 Tryz.underlying5 Tryz.underlying9 (n := m) (l := t32 a l) (by rw [t32_len, hn, hm]) (h.rd 0 (t32 a l) (fun j x hx => by
    have hj : j < (t32 a l).length := (List.getElem?_eq_some_iff.1 hx).1
    rw [t32_len, hn, ← hm] at hj
    rw [Nat.zero_add, cellsF_at _ _ hj, t32_at a l hx])) (c := m)
  clear hs ha hg hr hn hm
  go_enter Tryz.func78, Tryz.ntmps78
  go_wp2_with fail
  refine C1.out.mono ?_
  rintro e w1 ⟨rfl, rfl⟩
  go_wp2_with fail
  refine C2.out.mono ?_
  rintro e w2 ⟨rfl, hblk, hb2⟩
  have k := K.out _ hblk
  clear hblk
  go_wp2_with fail
  go_ret
  exact ⟨rfl, W1.trans hb2⟩

end Go.Proofs.YtilngifollpoeaaGreatFmt
