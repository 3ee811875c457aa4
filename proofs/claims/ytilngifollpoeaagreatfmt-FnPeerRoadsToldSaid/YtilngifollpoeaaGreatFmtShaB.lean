/- SHA-256: a block's cells whole; Digest.Write. -/
import Derived.Test.YtilngifollpoeaaGreatFmtSha1
import Derived.Test.YtilngifollpoeaaGreatFmtOwn
import Derived.BigQuiet
import Derived.Deep.RegionWith
/- SHA-256: Digest.Write, by its ways. -/
namespace Go.Proofs.YtilngifollpoeaaGreatFmt
open Go.RowKit

/-- A digest as it stands. -/
structure Dg where
  h : Nat → Int
  x : Nat → UInt8
  nx : Nat
  len : Nat

def DgAt (w : World) (g : Nat) (d : Dg) : Prop := Blk w g 212 (digC d.h (fun j => ((d.x j).toNat : Int)) d.nx d.len)

/-- Bytes laid over a row from the place a on. -/
def lay (x : Nat → UInt8) (a : Nat) (l : List UInt8) (j : Nat) : UInt8 := if a ≤ j ∧ j < a + l.length then l.getD (j - a) 0 else x j

/-- The first 64 bytes. -/
def rowL (x : Nat → UInt8) : List UInt8 := (List.range 64).map x

/-- What Write makes of a digest (where it stands at the beginning of a block, or where the bytes end one). -/
def wr (kf : Nat → Int) (d : Dg) (l : List UInt8) : Dg :=
  if d.nx = 0 then ⟨toH (cmp kf (l.take (64 * (l.length / 64))) (l.length / 64) (ofH d.h)), lay d.x 0 (l.drop (64 * (l.length / 64))), l.length % 64, d.len + l.length⟩
  else ⟨toH (cmp kf (l.drop (64 - d.nx)) ((l.length - (64 - d.nx)) / 64) (cmp kf (rowL (lay d.x d.nx (l.take (64 - d.nx)))) 1 (ofH d.h))), lay d.x d.nx (l.take (64 - d.nx)), 0, d.len + l.length⟩

theorem digC_size (h x : Nat → Int) (nx len : Int) : (digC h x nx len).size = 75 := by simp [digC]

theorem digC_get (h x : Nat → Int) (nx len : Int) {i : Nat} (hi : i < 75) : (digC h x nx len)[i]? = some (if i < 8 then .int .u32 (h i) else if i < 72 then .int .u8 (x (i - 8)) else if i = 72 then .int .i64 nx else if i = 73 then .int .u64 len else .bool false) := by
  rw [Array.getElem?_eq_getElem (by rw [digC_size]; exact hi)]
  simp [digC]

theorem digC_x (h x : Nat → Int) (nx len : Int) {j : Nat} (hj : j < 64) : (digC h x nx len)[8 + j]? = some (.int .u8 (x j)) := by
  rw [digC_get h x nx len (by omega), if_neg (by omega), if_pos (by omega), Nat.add_sub_cancel_left]

theorem digC_nx (h x : Nat → Int) (nx len v : Int) : (digC h x nx len).setIfInBounds 72 (.int .i64 v) = digC h x v len := by
  apply Array.ext_getElem?
  intro j
  by_cases hj : j < 75
  · rw [Array.getElem?_setIfInBounds, digC_size, digC_get _ _ _ _ hj, digC_get _ _ _ _ hj]
    by_cases e : 72 = j
    · subst e; simp
    · rw [if_neg e]
      congr 1
      rw [if_neg (show ¬ j = 72 from fun h => e h.symm), if_neg (show ¬ j = 72 from fun h => e h.symm)]
  · rw [Array.getElem?_eq_none (by rw [Array.size_setIfInBounds, digC_size]; omega), Array.getElem?_eq_none (by rw [digC_size]; omega)]

theorem digC_len (h x : Nat → Int) (nx len v : Int) : (digC h x nx len).setIfInBounds 73 (.int .u64 v) = digC h x nx v := by
  apply Array.ext_getElem?
  intro j
  by_cases hj : j < 75
  · rw [Array.getElem?_setIfInBounds, digC_size, digC_get _ _ _ _ hj, digC_get _ _ _ _ hj]
    by_cases e : 73 = j
    · subst e; simp
    · rw [if_neg e]
      congr 1
      rw [if_neg (show ¬ j = 73 from fun h => e h.symm), if_neg (show ¬ j = 73 from fun h => e h.symm)]
  · rw [Array.getElem?_eq_none (by rw [Array.size_setIfInBounds, digC_size]; omega), Array.getElem?_eq_none (by rw [digC_size]; omega)]

theorem digC_lay (h : Nat → Int) (x : Nat → UInt8) (nx len : Int) (a : Nat) (l : List UInt8) (ha : a + l.length ≤ 64) :
    ((digC h (fun j => ((x j).toNat : Int)) nx len).toList.take (8 + a) ++ Lib.byteCells l ++ (digC h (fun j => ((x j).toNat : Int)) nx len).toList.drop (8 + a + l.length)).toArray = digC h (fun j => ((lay x a l j).toNat : Int)) nx len := by
  obtain ⟨C, hC⟩ : ∃ C, C = digC h (fun j => ((x j).toNat : Int)) nx len := ⟨_, rfl⟩
  have hCs : C.size = 75 := by rw [hC]; exact digC_size _ _ _ _
  have hCg : ∀ i, i < 75 → C[i]? = some (if i < 8 then .int .u32 (h i) else if i < 72 then .int .u8 ((x (i - 8)).toNat : Int) else if i = 72 then .int .i64 nx else if i = 73 then .int .u64 len else .bool false) := fun i hi => by rw [hC]; exact digC_get _ _ _ _ hi
  rw [← hC]
  apply Array.ext_getElem?
  intro j
  rw [List.getElem?_toArray]
  by_cases hj : j < 75
  · rw [digC_get _ _ _ _ hj]
    by_cases h1 : j < 8 + a
    · rw [List.append_assoc, List.getElem?_append_left (by rw [List.length_take, Array.length_toList]; omega), List.getElem?_take, if_pos h1, Array.getElem?_toList, hCg j hj]
      congr 1
      unfold lay
      by_cases h8 : j < 8
      · rw [if_pos h8, if_pos h8]
      · rw [if_neg h8, if_neg h8, if_pos (by omega), if_pos (by omega), if_neg (by omega)]
    · have ht : (C.toList.take (8 + a)).length = 8 + a := by rw [List.length_take, Array.length_toList]; omega
      by_cases h2 : j < 8 + a + l.length
      · rw [List.append_assoc, List.getElem?_append_right (by rw [ht]; omega), ht, List.getElem?_append_left (by rw [Lib.byteCells_length]; omega)]
        have hlj : j - (8 + a) < l.length := by omega
        unfold Lib.byteCells lay
        rw [List.getElem?_map, List.getElem?_eq_getElem hlj, Option.map_some, if_neg (by omega), if_pos (by omega), if_pos (by omega), List.getD_eq_getElem?_getD, show j - 8 - a = j - (8 + a) from by omega, List.getElem?_eq_getElem hlj]
        rfl
      · have n8 : ¬ j < 8 := by omega
        have hl2 : (C.toList.take (8 + a) ++ Lib.byteCells l).length = 8 + a + l.length := by rw [List.length_append, ht, Lib.byteCells_length]
        rw [List.getElem?_append_right (by rw [hl2]; omega), hl2, List.getElem?_drop, Array.getElem?_toList, show 8 + a + l.length + (j - (8 + a + l.length)) = j from by omega, hCg j hj]
        congr 1
        unfold lay
        rw [if_neg n8, if_neg n8]
        by_cases h72 : j < 72
        · rw [if_pos h72, if_pos h72, if_neg (by omega)]
        · rw [if_neg h72, if_neg h72]
  · rw [List.getElem?_eq_none (by simp only [List.length_append, List.length_take, List.length_drop, Array.length_toList, Lib.byteCells_length]; omega), Array.getElem?_eq_none (by rw [digC_size]; omega)]

theorem toH_ofH (h : Nat → Int) {i : Nat} (hi : i < 8) : toH (ofH h) i = h i := by
  match i, hi with
  | 0, _ => rfl
  | 1, _ => rfl
  | 2, _ => rfl
  | 3, _ => rfl
  | 4, _ => rfl
  | 5, _ => rfl
  | 6, _ => rfl
  | 7, _ => rfl
  | i + 8, h => omega

theorem rowL_len (x : Nat → UInt8) : (rowL x).length = 64 := by simp [rowL]

/-- The row of a digest reads as bytes. -/
theorem DgAt.row {w : World} {g : Nat} {d : Dg} (h : DgAt w g d) : RdAt w g 8 (rowL d.x) := by
  refine Blk.rd h 8 _ (fun j y hy => ?_)
  have hj : j < 64 := by have := (List.getElem?_eq_some_iff.1 hy).1; rw [rowL_len] at this; exact this
  rw [digC_x _ _ _ _ hj]
  unfold rowL at hy
  rw [List.getElem?_map, List.getElem?_range hj] at hy
  cases hy
  rfl

set_option maxRecDepth 100000 in
theorem andNot63 : ∀ n : Nat, n ≤ 400 → bits .andNot .i64 (n : Int) 63 = ((64 * (n / 64) : Nat) : Int) := by decide +kernel

set_option maxHeartbeats 1000000 in
set_option maxRecDepth 100000 in
theorem blk_any (g b o n c m : Nat) (h x kf : Nat → Int) (nx len : Int) (l : List UInt8) (w : World) (hg : Blk w g 212 (digC h x nx len)) (hr : RdAt w b o l) (hn : l.length = n) (hb : b < w.heap.size) (hm : n = 64 * m) (hnc : n ≤ c) (hc : c ≤ maxLen)
    (hk : ∀ i, i < 64 → w.cell? ⟨25, i, none⟩ = some (.int .u32 (kf i))) :
    Calls Tryz.prog 246 #[.pointer (some ⟨g, 0, none⟩), .slice (some ⟨b, o, none⟩) n c] w fun e w' => e = .returned (.tuple #[]) ∧ Blk w' g 212 (digC (toH (cmp kf l m (ofH h))) x nx len) ∧ But g w w' := by
  have C := Lib.hid (block_any g b o n c m h x kf nx len l w hg hr hn hb hm hnc hc hk)
  clear hg hr hn hk hm
  go_enter Tryz.func246, Tryz.ntmps246
  go_wp2_with fail
  refine C.out.mono ?_
  rintro e w1 ⟨rfl, h1, h2⟩
  have H1 := Lib.hid h1
  clear C h1
  go_wp2_with fail
  go_end0
  exact ⟨rfl, H1.out, h2⟩
end Go.Proofs.YtilngifollpoeaaGreatFmt

/- SHA-256: Digest.Write at the beginning of a block. -/
namespace Go.Proofs.YtilngifollpoeaaGreatFmt
open Go.RowKit

/-- copy of bytes into the row of a digest. -/
theorem run_lay (W : World) (g b o n c a m q : Nat) (ty : TypeId) (h : Nat → Int) (x : Nat → UInt8) (nx len : Int) (l : List UInt8) (hg : Blk W g 212 (digC h (fun j => ((x j).toNat : Int)) nx len)) (hr : RdAt W b o l) (hn : l.length = Nat.min n m) (ha : a + l.length ≤ 64) :
    ∃ W', (Builtin.copy_ #[22, 22] ty #[.slice (some ⟨g, 8 + a, none⟩) m q, .slice (some ⟨b, o, none⟩) n c]).run Tryz.prog W = .ok (.int .i64 l.length) W' ∧ Blk W' g 212 (digC h (fun j => ((lay x a l j).toNat : Int)) nx len) ∧ But g W W' := by
  have kcp := run_copy_row (P := Tryz.prog) W 22 22 ty 5 g (8 + a) m q ⟨b, o, none⟩ n c _ 212 (Lib.byteCells l) Tryz.underlying22 (by kernel_rfl) hg (by rw [Lib.byteCells_length, hn]) (fun j u hj => by
      obtain ⟨y, hy, rfl⟩ := bcells_at l j u hj
      exact hr.adds j y hy) (by rw [Lib.byteCells_length, digC_size]; omega) (bcells_one l)
  rw [Lib.byteCells_length, digC_lay h x nx len a l ha] at kcp
  refine ⟨_, kcp.trans ?_, setRow_heap _ g _ _ 212 (0, 0) hg, ⟨rfl, rfl, rfl, by simp, fun k hk hne => setRow_other _ g k _ (fun e => hne (by rw [e]))⟩⟩
  rfl

set_option maxHeartbeats 4000000 in
set_option maxRecDepth 100000 in
theorem WriteA_any (g b o n c len : Nat) (h : Nat → Int) (x : Nat → UInt8) (l : List UInt8) (w : World) (hg : Blk w g 212 (digC h (fun j => ((x j).toNat : Int)) 0 len)) (hr : RdAt w b o l) (hn : l.length = n) (hbg : b ≠ g) (h0 : 0 < n) (h64 : n < 64) (hlen : len < 100000) :
    Calls Tryz.prog 243 #[.pointer (some ⟨g, 0, none⟩), .slice (some ⟨b, o, none⟩) n c] w fun e w' => e = .returned (.tuple #[.int .i64 n, .nilIface]) ∧ Blk w' g 212 (digC h (fun j => ((lay x 0 l j).toNat : Int)) n ((len + n : Nat) : Int)) ∧ But g w w' := by
  obtain ⟨t, ht⟩ : ∃ t, t = len + n := ⟨_, rfl⟩
  rw [← ht]
  have et : (len : Int) + (n : Int) = (t : Int) := by omega
  have hn18 : (n : Int) < 18446744073709551616 := by omega
  have ht18 : (t : Int) < 18446744073709551616 := by omega
  have g2 := hg.set_ 73 (.int .u64 (t : Int))
  rw [digC_len] at g2
  have b1 : But g w (w.setCell ⟨g, 73, none⟩ (.int .u64 (t : Int))) := But.setCell (World.grownBy.refl w (some g)) 73 _
  have r1 : RdAt (w.setCell ⟨g, 73, none⟩ (.int .u64 (t : Int))) b o l := fun j y hy => (World.cell?_setCell_other _ _ _ _ (fun e => hbg (by injection e with e1 e2 e3; exact e1.symm))).trans (hr j y hy)
  have c73 : w.cell? ⟨g, 73, none⟩ = some (.int .u64 (len : Int)) := (hg.cell 73).trans (digC_get _ _ _ _ (by decide))
  have f73 := hg.frozen 73
  have c72 : (w.setCell ⟨g, 73, none⟩ (.int .u64 (t : Int))).cell? ⟨g, 72, none⟩ = some (.int .i64 0) := (g2.cell 72).trans (digC_get _ _ _ _ (by decide))
  obtain ⟨W2, kcp, g3, b3⟩ := run_lay (w.setCell ⟨g, 73, none⟩ (.int .u64 (t : Int))) g b o n c 0 64 64 3 h x 0 (t : Int) l g2 r1 (by rw [hn]; show n = min n 64; omega) (by omega)
  rw [hn, Nat.add_zero] at kcp
  have d72 : W2.cell? ⟨g, 72, none⟩ = some (.int .i64 0) := (g3.cell 72).trans (digC_get _ _ _ _ (by decide))
  have f72 := g3.frozen 72
  have g4 := g3.set_ 72 (.int .i64 (n : Int))
  rw [digC_nx] at g4
  have H4 := Lib.hid g4
  have H5 := Lib.hid ((But.trans b1 b3).setCell 72 (.int .i64 (n : Int)))
  have hI : ((64 : Int) ≤ n) = False := by simp; omega
  have hI0 : (0 : Int) < n := by omega
  clear hg hr hn g2 b1 r1 g3 b3 g4 ht
  go_enter Tryz.func243, Tryz.ntmps243
  go_wp2_with fail
  go_ret2
  exact ⟨rfl, H4.out, H5.out⟩

/-- The table stands elsewhere. -/
theorem K_but {w w' : World} {g : Nat} {kf : Nat → Int} (hk : ∀ i, i < 64 → w.cell? ⟨25, i, none⟩ = some (.int .u32 (kf i))) (hgK : g ≠ 25) (hb : But g w w') : ∀ i, i < 64 → w'.cell? ⟨25, i, none⟩ = some (.int .u32 (kf i)) := fun i hi => by
  have h0 := hk i hi
  have hlt : 25 < w.heap.size := by
    rcases Nat.lt_or_ge 25 w.heap.size with h1 | h1
    · exact h1
    · simp [World.cell?, Array.getElem?_eq_none h1] at h0
  have e := hb.block 25 hlt (fun e => hgK (by injection e with e; exact e.symm))
  unfold World.cell? at h0 ⊢
  rw [← h0]
  simp only
  rw [e]

theorem RdAt.but {w w' : World} {g b o : Nat} {l : List UInt8} (h : RdAt w b o l) (hb : But g w w') (hbg : b ≠ g) (hlt : b < w.heap.size) : RdAt w' b o l := fun j x hx => by
  have h0 := h j x hx
  have e := hb.block b hlt (fun e => hbg (by injection e))
  unfold World.cell? at h0 ⊢
  rw [← h0]
  simp only
  rw [e]

set_option maxHeartbeats 4000000 in
set_option maxRecDepth 100000 in
theorem WriteB_any (g b o n c len m r : Nat) (h kf : Nat → Int) (x : Nat → UInt8) (l : List UInt8) (w : World) (hg : Blk w g 212 (digC h (fun j => ((x j).toNat : Int)) 0 len)) (hr : RdAt w b o l) (hn : l.length = n) (hbg : b ≠ g) (hb : b < w.heap.size) (hnc : n ≤ c) (hc : c ≤ maxLen) (h64 : 64 ≤ n) (h400 : n ≤ 400) (hm : m = n / 64) (hrr : r = n % 64) (hlen : len < 100000) (hgK : g ≠ 25)
    (hk : ∀ i, i < 64 → w.cell? ⟨25, i, none⟩ = some (.int .u32 (kf i))) :
    Calls Tryz.prog 243 #[.pointer (some ⟨g, 0, none⟩), .slice (some ⟨b, o, none⟩) n c] w fun e w' => e = .returned (.tuple #[.int .i64 n, .nilIface]) ∧ Blk w' g 212 (digC (toH (cmp kf (l.take (64 * m)) m (ofH h))) (fun j => ((lay x 0 (l.drop (64 * m)) j).toNat : Int)) r ((len + n : Nat) : Int)) ∧ But g w w' := by
  obtain ⟨t, ht⟩ : ∃ t, t = len + n := ⟨_, rfl⟩
  rw [← ht]
  have et : (len : Int) + (n : Int) = (t : Int) := by omega
  have hn18 : (n : Int) < 18446744073709551616 := by omega
  have ht18 : (t : Int) < 18446744073709551616 := by omega
  have g2 := hg.set_ 73 (.int .u64 (t : Int))
  rw [digC_len] at g2
  have b1 : But g w (w.setCell ⟨g, 73, none⟩ (.int .u64 (t : Int))) := But.setCell (World.grownBy.refl w (some g)) 73 _
  have s1 := b1.size
  have r1 : RdAt (w.setCell ⟨g, 73, none⟩ (.int .u64 (t : Int))) b o l := hr.but b1 hbg hb
  have c73 : w.cell? ⟨g, 73, none⟩ = some (.int .u64 (len : Int)) := (hg.cell 73).trans (digC_get _ _ _ _ (by decide))
  have f73 := hg.frozen 73
  have c72 : (w.setCell ⟨g, 73, none⟩ (.int .u64 (t : Int))).cell? ⟨g, 72, none⟩ = some (.int .i64 0) := (g2.cell 72).trans (digC_get _ _ _ _ (by decide))
  obtain ⟨q, hq⟩ : ∃ q, q = 64 * m := ⟨_, rfl⟩
  have hAN := andNot63 n h400
  rw [← hm, ← hq] at hAN
  rw [← hq]
  have C1 := Lib.hid (blk_any g b o q c m h (fun j => ((x j).toNat : Int)) kf 0 (t : Int) (l.take q) _ g2 (r1.take q) (by rw [List.length_take]; omega) (by omega) hq (by omega) hc (K_but hk hgK b1))
  have hI : (64 : Int) ≤ n := by omega
  have hq1 : (q : Int) ≤ n := by omega
  have hqc : (q : Int) ≤ c := by omega
  have hq65 : ((65536 : Int) < q) = False := by simp; omega
  have hqN : q ≤ n := by omega
  have hqcN : q ≤ c := by omega
  have hcm : c ≤ 140737488355328 * 65536 := by unfold maxLen at hc; omega
  by_cases hr0 : r = 0
  · subst hr0
    have e2 : q = n := by omega
    have e3 : (n : Int) - (q : Int) = 0 := by omega
    have hnil : l.drop q = [] := List.drop_eq_nil_of_le (by omega)
    rw [hnil]
    have HB := Lib.hid b1
    clear hg hr hn g2 b1 r1 ht hk hm hrr hq e2 hqN hqcN
    have e2N : n - q = 0 := by omega
    go_enter Tryz.func243, Tryz.ntmps243
    go_wp2_with fail
    refine wp_loop_rounds 1 ?_
    rw [rounds_succ]
    go_wp2_with fail
    refine C1.out.mono ?_
    rintro e w1 ⟨rfl, h1, h2⟩
    have H1 := Lib.hid h1
    have H2 := Lib.hid (But.trans HB.out h2)
    clear C1 h1 h2
    go_upto_region 18 with (fail)
    generalize (if c = q then some (⟨b, o, none⟩ : Addr) else some ⟨b, o + q, none⟩) = ao
    go_wp2_with fail
    go_ret2
    refine ⟨rfl, ?_, H2.out⟩
    rw [digC_ext (h := toH (cmp kf (l.take q) m (ofH h))) (fun _ _ => rfl) (fun j hj => ?_)]
    · exact H1.out
    · unfold lay
      rw [if_neg (by simp)]
  · obtain ⟨d, hd⟩ : ∃ d, d = q := ⟨_, rfl⟩
    have e3 : (n : Int) - (q : Int) = (r : Int) := by omega
    have e2N : n - q = r := by omega
    have hne : (q = n) = False := by simp; omega
    have hnec : (c = q) = False := by simp; omega
    have hr64 : ((64 : Int) ≤ r) = False := by simp; omega
    have hrI : (0 : Int) < r := by omega
    have D := Lib.hid fun (W : World) (h1 : Blk W g 212 (digC (toH (cmp kf (l.take q) m (ofH h))) (fun j => ((x j).toNat : Int)) 0 (t : Int))) (h2 : But g (w.setCell ⟨g, 73, none⟩ (.int .u64 (t : Int))) W) =>
      run_lay W g b (o + q) r (c - q) 0 64 64 3 (toH (cmp kf (l.take q) m (ofH h))) x 0 (t : Int) (l.drop q) h1 ((r1.but h2 hbg (by omega)).drop q) (by rw [List.length_drop, hn]; show n - q = min r 64; omega) (by rw [List.length_drop, hn]; omega)
    rw [List.length_drop, hn, e2N, Nat.add_zero] at D
    have HB := Lib.hid b1
    clear hg hr hn g2 b1 r1 ht hk hm hrr hq hd
    go_enter Tryz.func243, Tryz.ntmps243
    go_wp2_with fail
    refine wp_loop_rounds 1 ?_
    rw [rounds_succ]
    go_wp2_with fail
    refine C1.out.mono ?_
    rintro e w1 ⟨rfl, h1, h2⟩
    obtain ⟨W2, kcp, g3, b3⟩ := D.out w1 h1 h2
    have H2 := Lib.hid ((But.trans (But.trans HB.out h2) b3).setCell 72 (.int .i64 (r : Int)))
    have d72 : W2.cell? ⟨g, 72, none⟩ = some (.int .i64 0) := (g3.cell 72).trans (digC_get _ _ _ _ (by decide))
    have f72 := g3.frozen 72
    have g4 := g3.set_ 72 (.int .i64 (r : Int))
    rw [digC_nx] at g4
    have H4 := Lib.hid g4
    clear C1 D h1 h2 g3 b3 g4
    go_upto_region 18 with (fail)
    clear e3 e2N hne hnec hq1 hqc hq65 hcm hqN hqcN hAN hI et hn18 ht18
    go_wp2_with fail
    go_ret2
    exact ⟨rfl, H4.out, H2.out⟩
end Go.Proofs.YtilngifollpoeaaGreatFmt

/- SHA-256: Digest.Write where the bytes fill a begun block. -/
namespace Go.Proofs.YtilngifollpoeaaGreatFmt
open Go.RowKit

theorem ofH_toH (s : St) : ofH (toH s) = s := by cases s; rfl

theorem K_drew {w : World} {kf : Nat → Int} (hk : ∀ i, i < 64 → w.cell? ⟨25, i, none⟩ = some (.int .u32 (kf i))) : ∀ i, i < 64 → w.drew.cell? ⟨25, i, none⟩ = some (.int .u32 (kf i)) := hk

set_option maxHeartbeats 4000000 in
set_option maxRecDepth 100000 in
theorem WriteC_any (g b o n c len a f : Nat) (h kf : Nat → Int) (x : Nat → UInt8) (l : List UInt8) (w : World) (hg : Blk w g 212 (digC h (fun j => ((x j).toNat : Int)) a len)) (hr : RdAt w b o l) (hn : l.length = n) (hbg : b ≠ g) (hb : b < w.heap.size) (hnc : n ≤ c) (hc : c ≤ maxLen) (h0 : 0 < a) (hf : a + f = 64) (hf0 : 0 < f) (hnf : n = f ∨ n = f + 64) (hlen : len < 100000) (hgK : g ≠ 25)
    (hk : ∀ i, i < 64 → w.cell? ⟨25, i, none⟩ = some (.int .u32 (kf i))) :
    Calls Tryz.prog 243 #[.pointer (some ⟨g, 0, none⟩), .slice (some ⟨b, o, none⟩) n c] w fun e w' => e = .returned (.tuple #[.int .i64 n, .nilIface]) ∧ Blk w' g 212 (digC (toH (cmp kf (l.drop f) ((n - f) / 64) (cmp kf (rowL (lay x a (l.take f))) 1 (ofH h)))) (fun j => ((lay x a (l.take f) j).toNat : Int)) 0 ((len + n : Nat) : Int)) ∧ But g w w' := by
  obtain ⟨t, ht⟩ : ∃ t, t = len + n := ⟨_, rfl⟩
  rw [← ht]
  have et : (len : Int) + (n : Int) = (t : Int) := by omega
  have hn18 : (n : Int) < 18446744073709551616 := by omega
  have ht18 : (t : Int) < 18446744073709551616 := by omega
  have g2 := hg.set_ 73 (.int .u64 (t : Int))
  rw [digC_len] at g2
  have b1 : But g w (w.setCell ⟨g, 73, none⟩ (.int .u64 (t : Int))) := But.setCell (World.grownBy.refl w (some g)) 73 _
  have r1 : RdAt (w.setCell ⟨g, 73, none⟩ (.int .u64 (t : Int))).drew b o l := hr.but (But.drew b1) hbg hb
  have c73 : w.cell? ⟨g, 73, none⟩ = some (.int .u64 (len : Int)) := (hg.cell 73).trans (digC_get _ _ _ _ (by decide))
  have f73 := hg.frozen 73
  have c72 : (w.setCell ⟨g, 73, none⟩ (.int .u64 (t : Int))).cell? ⟨g, 72, none⟩ = some (.int .i64 a) := (g2.cell 72).trans (digC_get _ _ _ _ (by decide))
  obtain ⟨x', hx'⟩ : ∃ x', x' = lay x a (l.take f) := ⟨_, rfl⟩
  have hlt : (l.take f).length = f := by rw [List.length_take]; omega
  obtain ⟨W2, kcp, g3, b3⟩ := run_lay (w.setCell ⟨g, 73, none⟩ (.int .u64 (t : Int))).drew g b o n c a f f 3 h x a (t : Int) (l.take f) g2.drew (r1.take f) (by rw [hlt]; show f = min n f; omega) (by omega)
  rw [hlt] at kcp
  rw [← hx'] at g3 ⊢
  have d72 : W2.cell? ⟨g, 72, none⟩ = some (.int .i64 a) := (g3.cell 72).trans (digC_get _ _ _ _ (by decide))
  have f72 := g3.frozen 72
  have g4 := g3.set_ 72 (.int .i64 64)
  rw [digC_nx] at g4
  have b4 := (But.trans (But.drew b1) b3).setCell 72 (.int .i64 64)
  have e72 : (W2.setCell ⟨g, 72, none⟩ (.int .i64 64)).cell? ⟨g, 72, none⟩ = some (.int .i64 64) := (g4.cell 72).trans (digC_get _ _ _ _ (by decide))
  have C1 := Lib.hid (blk_any g g 8 64 64 1 h (fun j => ((x' j).toNat : Int)) kf 64 (t : Int) (rowL x') _ g4 (DgAt.row (d := ⟨h, x', 64, t⟩) g4) (rowL_len x') g4.lt (by decide) (by decide) (by unfold maxLen; omega) (K_but hk hgK b4))
  obtain ⟨h1, hh1⟩ : ∃ h1, h1 = toH (cmp kf (rowL x') 1 (ofH h)) := ⟨_, rfl⟩
  rw [← hh1] at C1
  rw [show cmp kf (rowL x') 1 (ofH h) = ofH h1 from by rw [hh1, ofH_toH]]
  have ea : (a : Int) + (f : Int) = 64 := by omega
  have efN : 64 - a = f := by omega
  have efI : (64 : Int) - a = f := by omega
  have haI : (0 : Int) < a := by omega
  have ha64 : (a : Int) ≤ 64 := by omega
  have ha64N : a ≤ 64 := by omega
  have hfn : (f : Int) ≤ n := by omega
  have hfc : (f : Int) ≤ c := by omega
  have ne64 : (a = 64) = False := by simp; omega
  have HB := Lib.hid b4
  have HN := Lib.hid hn
  have HR := Lib.hid hr
  have HK := Lib.hid hk
  have HX := Lib.hid hx'
  clear hg hr hn g2 b1 r1 ht hk g3 b3 g4 b4 hx' hlt hh1
  rcases hnf with hnf | hnf
  · subst hnf
    have e0 : ((n : Int) - n) = 0 := by omega
    have e0N : n - n = 0 := by omega
    rw [e0N, Nat.zero_div, show cmp kf (l.drop n) 0 (ofH h1) = ofH h1 from rfl]
    go_enter Tryz.func243, Tryz.ntmps243
    go_upto_region 4 with (fail)
    go_region
    all_goals go_wp2_with fail
    all_goals
      refine C1.out.mono ?_
      rintro e w1 ⟨rfl, k1, k2⟩
      have i72 : w1.cell? ⟨g, 72, none⟩ = some (.int .i64 64) := (k1.cell 72).trans (digC_get _ _ _ _ (by decide))
      have j72 := k1.frozen 72
      have k3 := k1.set_ 72 (.int .i64 0)
      rw [digC_nx] at k3
      have H3 := Lib.hid k3
      have H4 := Lib.hid ((But.trans HB.out k2).setCell 72 (.int .i64 0))
      clear C1 k1 k2 k3
      go_upto_region 10 with (fail)
      generalize (if c = n then some (⟨b, o, none⟩ : Addr) else some ⟨b, o + n, none⟩) = ad
      clear kcp e0N efN e0
      go_wp2_with fail
      go_ret2
      refine ⟨rfl, ?_, H4.out⟩
      rw [digC_ext (fun i hi => toH_ofH h1 hi) (fun _ _ => rfl)]
      exact H3.out
  · have e2 : (n - f) / 64 = 1 := by rw [hnf, Nat.add_sub_cancel_left]
    rw [e2]
    have hc64N : 64 ≤ c - f := by omega
    have hd64 : (l.drop f).length = 64 := by rw [List.length_drop, HN.out]; omega
    have C2 := Lib.hid fun (W : World) (k : Blk W g 212 (digC h1 (fun j => ((x' j).toNat : Int)) 0 (t : Int))) (hb2 : But g w W) => blk_any g b (o + f) 64 (c - f) 1 h1 (fun j => ((x' j).toNat : Int)) kf 0 (t : Int) (l.drop f) W k ((HR.out.but hb2 hbg hb).drop f) hd64 (Nat.lt_of_lt_of_le hb hb2.size) (by decide) hc64N (by omega) (K_but HK.out hgK hb2)
    have HE := Lib.hid hnf
    have HC := Lib.hid hnc
    have HM := Lib.hid hc
    clear hd64 hc64N hnf e2
    go_enter Tryz.func243, Tryz.ntmps243
    go_upto_region 4 with (fail)
    go_region
    all_goals go_wp2_with fail
    all_goals
      refine C1.out.mono ?_
      rintro e w1 ⟨rfl, k1, k2⟩
      have i72 : w1.cell? ⟨g, 72, none⟩ = some (.int .i64 64) := (k1.cell 72).trans (digC_get _ _ _ _ (by decide))
      have j72 := k1.frozen 72
      have k3 := k1.set_ 72 (.int .i64 0)
      rw [digC_nx] at k3
      have k4 := (But.trans HB.out k2).setCell 72 (.int .i64 0)
      have C3 := Lib.hid (C2.out _ k3 k4)
      have K4 := Lib.hid k4
      have hnc2 : (c = f) = False := by have := HE.out; simp; omega
      clear C1 C2 k1 k2 k3 k4
      go_upto_region 10 with (fail)
      rw [show n - f = 64 from by have := HE.out; omega]
      obtain ⟨q, hq⟩ : ∃ q, q = c - f := ⟨_, rfl⟩
      rw [← hq] at C3 ⊢
      have hq64N : 64 ≤ q := by have h1 := HE.out; have h2 := HC.out; omega
      have hq64 : (64 : Int) ≤ q := by omega
      have hqm : q ≤ 140737488355328 * 65536 := by have h1 := HM.out; unfold maxLen at h1; omega
      have hAN : bits .andNot .i64 64 63 = 64 := by decide
      clear kcp efN efI hq hnc2 ea hfn hfc et hn18 ht18 hf ne64
      go_wp2_with fail
      refine wp_loop_rounds 1 ?_
      rw [rounds_succ]
      go_wp2_with fail
      refine C3.out.mono ?_
      rintro e w2 ⟨rfl, k1, k2⟩
      have H5 := Lib.hid k1
      have H6 := Lib.hid (But.trans K4.out k2)
      clear C3 k1 k2
      go_upto_region 18 with (fail)
      generalize (if q = 64 then some (⟨b, o + f, none⟩ : Addr) else some ⟨b, o + f + 64, none⟩) = ad
      go_wp2_with fail
      go_ret2
      exact ⟨rfl, H5.out, H6.out⟩

theorem Wr_any (g b o n c : Nat) (d : Dg) (kf : Nat → Int) (l : List UInt8) (w : World) (hd : DgAt w g d) (hr : RdAt w b o l) (hn : l.length = n) (hbg : b ≠ g) (hb : b < w.heap.size) (hnc : n ≤ c) (hc : c ≤ maxLen) (h0 : 0 < n) (h400 : n ≤ 400) (hlen : d.len < 100000) (hgK : g ≠ 25)
    (hk : ∀ i, i < 64 → w.cell? ⟨25, i, none⟩ = some (.int .u32 (kf i))) (hw : d.nx = 0 ∨ (0 < d.nx ∧ d.nx < 64 ∧ (d.nx + n = 64 ∨ d.nx + n = 128))) :
    Calls Tryz.prog 243 #[.pointer (some ⟨g, 0, none⟩), .slice (some ⟨b, o, none⟩) n c] w fun e w' => e = .returned (.tuple #[.int .i64 n, .nilIface]) ∧ DgAt w' g (wr kf d l) ∧ But g w w' := by
  obtain ⟨h, x, nx, len⟩ := d
  have hg : Blk w g 212 (digC h (fun j => ((x j).toNat : Int)) nx len) := hd
  rcases hw with hz | ⟨h1, h2, h3⟩
  · have hz : nx = 0 := hz
    subst hz
    by_cases h64 : n < 64
    · refine (WriteA_any g b o n c len h x l w hg hr hn hbg h0 h64 hlen).mono ?_
      rintro e w' ⟨he, hB, hbut⟩
      refine ⟨he, ?_, hbut⟩
      unfold DgAt wr
      rw [if_pos rfl, hn, Nat.div_eq_of_lt h64, Nat.mod_eq_of_lt h64]
      show Blk w' g 212 (digC (toH (ofH h)) (fun j => ((lay x 0 (l.drop 0) j).toNat : Int)) n ((len + n : Nat) : Int))
      rw [digC_ext (fun i hi => toH_ofH h hi) (fun _ _ => rfl), List.drop_zero]
      exact hB
    · refine (WriteB_any g b o n c len (n / 64) (n % 64) h kf x l w hg hr hn hbg hb hnc hc (by omega) h400 rfl rfl hlen hgK hk).mono ?_
      rintro e w' ⟨he, hB, hbut⟩
      refine ⟨he, ?_, hbut⟩
      unfold DgAt wr
      rw [if_pos rfl, hn]
      exact hB
  · have h1 : 0 < nx := h1
    have h2 : nx < 64 := h2
    have h3 : nx + n = 64 ∨ nx + n = 128 := h3
    refine (WriteC_any g b o n c len nx (64 - nx) h kf x l w hg hr hn hbg hb hnc hc h1 (by omega) (by omega) (by omega) hlen hgK hk).mono ?_
    rintro e w' ⟨he, hB, hbut⟩
    refine ⟨he, ?_, hbut⟩
    unfold DgAt wr
    rw [if_neg (show ¬ nx = 0 from by omega), hn]
    exact hB
end Go.Proofs.YtilngifollpoeaaGreatFmt
