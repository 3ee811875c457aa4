/- The identity hasher: a bytes.Buffer that is written once. -/
import Derived.Test.YtilngifollpoeaaGreatFmtEnc
import Derived.Test.YtilngifollpoeaaGreatFmtB32x
import Derived.BigQuiet
import Derived.Handy
namespace Go.Proofs.YtilngifollpoeaaGreatFmt
open Go.RowKit

set_option maxHeartbeats 1000000 in
set_option maxRecDepth 100000 in
theorem BufLen_any (g n c : Nat) (ao : Option Addr) (w : World) (h0 : w.cell? ⟨g, 0, none⟩ = some (.slice ao n c)) (h1 : w.cell? ⟨g, 1, none⟩ = some (.int .i64 0)) (hn : n ≤ 1000000) :
    Calls Tryz.prog 231 #[.pointer (some ⟨g, 0, none⟩)] w fun e w' => e = .returned (.int .i64 n) ∧ ∃ k, w' = w.drewN k := by
  go_enter Tryz.func231, Tryz.ntmps231
  go_wp2_with fail
  go_quiet (fail)
  go_wp2_with fail
  go_ret
  exact ⟨by rfl, _, rfl⟩

set_option maxHeartbeats 1000000 in
set_option maxRecDepth 100000 in
theorem BufBytes_any (g d n c : Nat) (w : World) (h0 : w.cell? ⟨g, 0, none⟩ = some (.slice (some ⟨d, 0, none⟩) n c)) (h1 : w.cell? ⟨g, 1, none⟩ = some (.int .i64 0)) (_hnc : n ≤ c) :
    Calls Tryz.prog 232 #[.pointer (some ⟨g, 0, none⟩)] w fun e w' => e = .returned (.slice (some ⟨d, 0, none⟩) n c) ∧ ∃ k, w' = w.drewN k := by
  have hcI : (0 : Int) ≤ n := by omega
  go_enter Tryz.func232, Tryz.ntmps232
  go_wp2_with fail
  go_quiet (fail)
  go_wp2_with fail
  go_ret
  exact ⟨rfl, _, rfl⟩

set_option maxHeartbeats 1000000 in
set_option maxRecDepth 100000 in
theorem tryGrow_any (g n : Nat) (w : World) (h0 : w.cell? ⟨g, 0, none⟩ = some (.slice none 0 0)) (hn : 0 < n) :
    Calls Tryz.prog 233 #[.pointer (some ⟨g, 0, none⟩), .int .i64 n] w fun e w' => e = .returned (.tuple #[.int .i64 0, .bool false]) ∧ w' = w := by
  have hnI : ((n : Int) ≤ 0) = False := by simp; omega
  go_enter Tryz.func233, Tryz.ntmps233
  go_wp2_with fail
  go_ret2
  exact ⟨rfl, rfl⟩

set_option maxHeartbeats 2000000 in
set_option maxRecDepth 100000 in
theorem grow_any (g n d : Nat) (w : World) (h0 : w.cell? ⟨g, 0, none⟩ = some (.slice none 0 0)) (h1 : w.cell? ⟨g, 1, none⟩ = some (.int .i64 0)) (f0 : w.frozen? ⟨g, 0, none⟩ = false) (hg : g < w.heap.size) (hd : d = w.heap.size) (hn : 0 < n) (hn64 : n ≤ 64) :
    Calls Tryz.prog 234 #[.pointer (some ⟨g, 0, none⟩), .int .i64 n] w fun e w' => e = .returned (.int .i64 0) ∧ ∃ k, w' = ((w.drewN k).alloc (.cells (cellsF 64 (fun _ => 0)) 5)).setCell ⟨g, 0, none⟩ (.slice (some ⟨d, 0, none⟩) n 64) := by
  have kmk : ∀ k, (Instr.makeSlice 22 (.int .i64 n) (.int .i64 64)).run Tryz.prog (w.drewN k) = .ok (.slice (some ⟨d, 0, none⟩) n 64) ((w.drewN k).alloc (.cells (cellsF 64 (fun _ => 0)) 5)) := fun k => by
    obtain ⟨i0, hi, hi3⟩ := Option.map_eq_some_iff.1 infoByte2
    obtain ⟨hz0, hz12⟩ := Prod.mk.inj hi3
    obtain ⟨hz1, hz2⟩ := Prod.mk.inj hz12
    have h := run_make (P := Tryz.prog) (w.drewN k) 22 5 i0 (.int .u8 0) Tryz.underlying22 hi hz0 .i64 .i64 n 64 (by omega) (by omega) (by rw [hz2]; omega) (by omega)
    rw [hz1, show ((64 : Int).toNat) = ((64 : Nat) : Int).toNat from rfl, Int.toNat_natCast, Int.toNat_natCast, madeBytes] at h
    rw [hd]
    exact h
  have C1 := Lib.hid (BufLen_any g 0 0 none w h0 h1 (by omega))
  have C2 := Lib.hid fun (W : World) (h0 : W.cell? ⟨g, 0, none⟩ = some (.slice none 0 0)) => tryGrow_any g n W h0 hn
  have KM := Lib.hid kmk
  have he : ∀ w : World, (binOp .eql 22 (.slice none 0 0) (.slice none 0 0)).run Tryz.prog w = .ok (.bool true) w := fun _ => rfl
  have h64 : (n : Int) ≤ 64 := by omega
  clear kmk hd
  go_enter Tryz.func234, Tryz.ntmps234
  go_wp2_with fail
  refine C1.out.mono ?_
  rintro e w1 ⟨rfl, k, rfl⟩
  have a0 : (w.drewN k).cell? ⟨g, 0, none⟩ = some (.slice none 0 0) := h0
  have a1 : (w.drewN k).cell? ⟨g, 1, none⟩ = some (.int .i64 0) := h1
  have af : (w.drewN k).frozen? ⟨g, 0, none⟩ = false := f0
  have D2 := Lib.hid (C2.out _ a0)
  have km := KM.out k
  have hA : Below w.heap.size (w.drewN k) ((w.drewN k).alloc (.cells (cellsF 64 (fun _ => 0)) 5)) := (Below.refl w.heap.size (w.drewN k)).alloc (show w.heap.size ≤ (w.drewN k).heap.size from Nat.le_refl _) _
  have b0 := (hA.cell (p := ⟨g, 0, none⟩) hg).trans a0
  have bf := (hA.frozen (p := ⟨g, 0, none⟩) hg).trans af
  clear C1 C2 KM hA
  go_wp2_with fail
  refine D2.out.mono ?_
  rintro e w1 ⟨rfl, hw1⟩
  subst w1
  go_wp2_with fail
  go_ret
  exact ⟨rfl, k, rfl⟩

/-- An identity hasher that has been written. -/
def IdAt (w : World) (g d n : Nat) : Prop := w.cell? ⟨g, 0, none⟩ = some (.slice (some ⟨d, 0, none⟩) n 64) ∧ w.cell? ⟨g, 1, none⟩ = some (.int .i64 0)

set_option maxHeartbeats 4000000 in
set_option maxRecDepth 100000 in
theorem BufWrite_any (g n B : Nat) (v : Value) (l : List UInt8) (w : World) (hg : Blk w g 140 #[.slice none 0 0, .int .i64 0, .int .i8 0]) (hr : Rd w g v l) (hn : l.length = n) (h0 : 0 < n) (hn64 : n ≤ 64) (hB : B ≤ g) :
    Calls Tryz.prog 230 #[.pointer (some ⟨g, 0, none⟩), v] w fun e w' => e = .returned (.tuple #[.int .i64 n, .nilIface]) ∧ ∃ d, IdAt w' g d n ∧ d < w'.heap.size ∧ RdAt w' d 0 l ∧ Below B w w' := by
  obtain ⟨b, o, c, rfl, hb, hlc, hcm, hat⟩ := hr
  rw [hn] at hlc ⊢
  have hgl := hg.lt
  have hg2 := hg.set_ 2 (.int .i8 0)
  have s2 : w.cell? ⟨g, 2, none⟩ = some (.int .i8 0) := hg.cell 2
  have s2f := hg.frozen 2
  obtain ⟨d, hd⟩ : ∃ d, d = (w.setCell ⟨g, 2, none⟩ (.int .i8 0)).heap.size := ⟨_, rfl⟩
  have C1 := Lib.hid (tryGrow_any g n _ (hg2.cell 0) h0)
  have C2 := Lib.hid (grow_any g n d _ (hg2.cell 0) (hg2.cell 1) (hg2.frozen 0) (by simpa using hgl) hd h0 hn64)
  have hdg : g < d := by rw [hd]; simpa using hgl
  have HG := Lib.hid hg2
  have HD := Lib.hid hd
  have HN := Lib.hid hn
  have HAT := Lib.hid hat
  clear hg hg2 hat hd hn
  go_enter Tryz.func230, Tryz.ntmps230
  go_wp2_with fail
  refine C1.out.mono ?_
  rintro e w1 ⟨rfl, hw1⟩
  subst w1
  go_wp2_with fail
  refine C2.out.mono ?_
  rintro e w1 ⟨rfl, k, hw1⟩
  clear C1 C2
  obtain ⟨W, hW⟩ : ∃ W, W = ((w.setCell ⟨g, 2, none⟩ (.int .i8 0)).drewN k).alloc (.cells (cellsF 64 (fun _ => 0)) 5) := ⟨_, rfl⟩
  rw [← hW] at hw1
  have hWd : Blk W d 5 (cellsF 64 (fun _ => 0)) := by rw [hW, HD.out]; exact Blk.new ((w.setCell ⟨g, 2, none⟩ (.int .i8 0)).drewN k) _ _
  have hWg : Blk W g 140 #[.slice none 0 0, .int .i64 0, .int .i8 0] := by rw [hW]; exact (HG.out.drewN k).alloc _
  have hWB : Below g w W := by rw [hW]; exact (below_drewN ((Below.refl g w).setCell (p := ⟨g, 2, none⟩) (Nat.le_refl _) _) k).alloc (by simp; omega) _
  have h1d : Blk w1 d 5 (cellsF 64 (fun _ => 0)) := by rw [hw1]; exact hWd.far (p := ⟨g, 0, none⟩) (by simp; omega) _
  have h1g := hWg.set_ 0 (.slice (some ⟨d, 0, none⟩) n 64)
  rw [← hw1] at h1g
  have h1B : Below g w w1 := by rw [hw1]; exact hWB.setCell (p := ⟨g, 0, none⟩) (Nat.le_refl _) _
  have kcp : ∀ ty, (Builtin.copy_ #[22, 22] ty #[.slice (some ⟨d, 0, none⟩) n 64, .slice (some ⟨b, o, none⟩) n c]).run Tryz.prog w1 = _ := fun ty =>
    run_copy_row (P := Tryz.prog) _ 22 22 ty 5 d 0 n 64 ⟨b, o, none⟩ n c (cellsF 64 (fun _ => 0)) 5 (Lib.byteCells l) Tryz.underlying22 (by kernel_rfl) h1d (by rw [Lib.byteCells_length, HN.out]; show n = min n n; omega) (fun j u hj => by
      obtain ⟨y, hy, rfl⟩ := bcells_at l j u hj
      exact (h1B.cell (p := (⟨b, o, none⟩ : Addr).add j) (by rw [add_block]; exact hb)).trans (HAT.out.adds j y hy)) (by rw [Lib.byteCells_length, HN.out, cellsF_size]; omega) (bcells_one l)
  rw [Lib.byteCells_length, HN.out] at kcp
  obtain ⟨fin, hfin⟩ : ∃ fin, fin = ((cellsF 64 (fun _ => 0)).toList.take 0 ++ Lib.byteCells l ++ (cellsF 64 (fun _ => 0)).toList.drop (0 + n)).toArray := ⟨_, rfl⟩
  rw [← hfin] at kcp
  have g0 : w1.cell? ⟨g, 0, none⟩ = some (.slice (some ⟨d, 0, none⟩) n 64) := h1g.cell 0
  have g1 : w1.cell? ⟨g, 1, none⟩ = some (.int .i64 0) := h1g.cell 1
  have HF : Hid (RdAt (w1.setRow d fin) d 0 l) := Lib.hid (by
    have hf : Blk (w1.setRow d fin) d 5 fin := setRow_heap _ d _ fin 5 (0, 0) h1d
    refine hf.rd 0 _ (fun j x hx => ?_)
    rw [Nat.zero_add, hfin, List.getElem?_toArray, List.take_zero, List.nil_append, List.getElem?_append_left (by rw [Lib.byteCells_length]; exact (List.getElem?_eq_some_iff.1 hx).1)]
    unfold Lib.byteCells
    rw [List.getElem?_map, hx]
    rfl)
  have HG2 : Hid (Blk (w1.setRow d fin) g 140 _) := Lib.hid ((setRow_other _ d g _ (by omega)).trans h1g)
  have HB2 : Hid (Below g w (w1.setRow d fin)) := Lib.hid ⟨h1B.os, h1B.tape, h1B.output, by simpa using h1B.size, fun q hq => (setRow_other _ d q _ (by omega)).trans (h1B.block q hq)⟩
  have HS : Hid (d < (w1.setRow d fin).heap.size) := Lib.hid (by simpa using h1d.lt)
  have hnI : (0 : Int) ≤ n := by omega
  clear hw1 hW hWd hWg hWB h1d h1g h1B hfin
  go_wp2_with fail
  go_ret2
  exact ⟨rfl, d, ⟨HG2.out.cell 0, HG2.out.cell 1⟩, HS.out, HF.out, HB2.out.mono hB⟩

set_option maxHeartbeats 1000000 in
set_option maxRecDepth 100000 in
theorem IdSize_any (g d n : Nat) (w : World) (h : IdAt w g d n) (hn64 : n ≤ 64) :
    Calls Tryz.prog 227 #[.pointer (some ⟨g, 0, none⟩)] w fun e w' => e = .returned (.int .i64 n) ∧ ∃ k, w' = w.drewN k := by
  have C := Lib.hid (BufLen_any g n 64 _ w h.1 h.2 (by omega))
  clear h
  go_enter Tryz.func227, Tryz.ntmps227
  go_wp2_with fail
  refine C.out.mono ?_
  rintro e w1 ⟨rfl, k, rfl⟩
  go_wp2_with fail
  go_ret
  exact ⟨rfl, k, rfl⟩

set_option maxHeartbeats 1000000 in
set_option maxRecDepth 100000 in
theorem IdSum_any (g d n : Nat) (v : Value) (w : World) (h : IdAt w g d n) (hn64 : n ≤ 64) :
    Calls Tryz.prog 229 #[.pointer (some ⟨g, 0, none⟩), v] w fun e w' => e = .returned (.slice (some ⟨d, 0, none⟩) n 64) ∧ ∃ k, w' = w.drewN k := by
  have C := Lib.hid (BufBytes_any g d n 64 w h.1 h.2 hn64)
  clear h
  go_enter Tryz.func229, Tryz.ntmps229
  go_wp2_with fail
  refine C.out.mono ?_
  rintro e w1 ⟨rfl, k, rfl⟩
  go_wp2_with fail
  go_ret
  exact ⟨rfl, k, rfl⟩

set_option maxHeartbeats 1000000 in
set_option maxRecDepth 100000 in
theorem GetId_any (w : World) :
    Calls Tryz.prog 57 #[.int .u64 0, .int .i64 (-1)] w fun e w' => e = .returned (.tuple #[.iface 134 (.pointer (some ⟨w.heap.size, 0, none⟩)), .nilIface]) ∧ w' = w.alloc (.cells #[.slice none 0 0, .int .i64 0, .int .i8 0] 140) := by
  go_enter Tryz.func57, Tryz.ntmps57
  go_wp2_with fail
  go_ret2
  exact ⟨rfl, rfl⟩

set_option maxHeartbeats 2000000 in
set_option maxRecDepth 100000 in
theorem encId_any (g d n : Nat) (l : List UInt8) (w : World) (h : IdAt w g d n) (hd : d < w.heap.size) (hr : RdAt w d 0 l) (hn : l.length = n) (h0 : 0 < n) (hn64 : n ≤ 64) :
    Calls Tryz.prog 58 #[.iface 134 (.pointer (some ⟨g, 0, none⟩)), .int .u64 0, .int .i64 (-1)] w (NewBE ((0 : Nat).toUInt8 :: n.toUInt8 :: l) w) := by
  have C1 := Lib.hid fun (v : Value) => IdSum_any g d n v w h hn64
  have C2 := Lib.hid fun (k : Nat) => IdSize_any g d n (w.drewN k) h hn64
  have C3 := Lib.hid fun (k : Nat) => mhEncode_any (.slice (some ⟨d, 0, none⟩) n 64) 0 n l (w.drewN k) (by decide) hn (by omega) h0 ⟨d, 0, 64, by rw [hn], hd, by omega, by unfold maxLen; omega, hr⟩
  have hn1 : ((n : Int) < 0) = False := by simp
  have hnI : (0 : Int) ≤ n := by omega
  have hn64I : (n : Int) ≤ 64 := by omega
  rw [show (((0 : Nat) : Int)) = 0 from rfl] at C3
  obtain ⟨R, hR⟩ : ∃ R, R = (0 : Nat).toUInt8 :: n.toUInt8 :: l := ⟨_, rfl⟩
  rw [← hR] at C3 ⊢
  clear h hr hn hR
  go_enter Tryz.func58, Tryz.ntmps58
  go_wp2_with fail
  refine (C1.out _).mono ?_
  rintro e w1 ⟨rfl, k, rfl⟩
  go_wp2_with fail
  refine (C2.out k).mono ?_
  rintro e w1 ⟨rfl, k2, hk2⟩
  have C := Lib.hid (C3.out (k + k2))
  have ek : w1 = w.drewN (k + k2) := by rw [hk2]; exact World.drewN_drewN _ _ _
  clear C1 C2 C3 hk2
  subst ek
  go_wp2_with fail
  refine C.out.mono ?_
  rintro e w1 ⟨v, rfl, hv, hb⟩
  clear C
  go_wp2_with fail
  go_ret2
  exact ⟨v, rfl, hv, Below.then_ (below_drewN (Below.refl _ w) (k + k2)) hb⟩

set_option maxHeartbeats 2000000 in
set_option maxRecDepth 100000 in
theorem sumId_any (v : Value) (n : Nat) (l : List UInt8) (w : World) (hr : Rd w w.heap.size v l) (hn : l.length = n) (h0 : 0 < n) (hn64 : n ≤ 64) :
    Calls Tryz.prog 39 #[v, .int .u64 0, .int .i64 (-1)] w (NewBE ((0 : Nat).toUInt8 :: n.toUInt8 :: l) w) := by
  obtain ⟨W, hW⟩ : ∃ W, W = w.alloc (.cells #[.slice none 0 0, .int .i64 0, .int .i8 0] 140) := ⟨_, rfl⟩
  have hWB : Below w.heap.size w W := by rw [hW]; exact (Below.refl _ _).alloc (Nat.le_refl _) _
  have hWg : Blk W w.heap.size 140 #[.slice none 0 0, .int .i64 0, .int .i8 0] := by rw [hW]; exact Blk.new _ _ _
  have C1 := Lib.hid (GetId_any w)
  have C2 := Lib.hid (BufWrite_any w.heap.size n w.heap.size v l W hWg (hr.below hWB) hn h0 hn64 (Nat.le_refl _))
  have C3 := Lib.hid fun (d : Nat) (W : World) (h : IdAt W w.heap.size d n) (hd : d < W.heap.size) (hr : RdAt W d 0 l) => encId_any w.heap.size d n l W h hd hr hn h0 hn64
  rw [← hW] at C1
  obtain ⟨G, hG⟩ : ∃ G, G = w.heap.size := ⟨_, rfl⟩
  rw [← hG] at C1 C2 C3 hWB
  obtain ⟨b, o, c, rfl, _⟩ := hr
  rw [hn] at C2 ⊢
  obtain ⟨R, hR⟩ : ∃ R, R = (0 : Nat).toUInt8 :: n.toUInt8 :: l := ⟨_, rfl⟩
  rw [← hR] at C3 ⊢
  have HG := Lib.hid hG
  clear hW hWg hn hR hG
  go_enter Tryz.func39, Tryz.ntmps39
  go_wp2_with fail
  refine C1.out.mono ?_
  rintro e w1 ⟨rfl, hw1⟩
  subst w1
  go_wp2_with fail
  refine C2.out.mono ?_
  rintro e w1 ⟨rfl, d, hid, hd, hat, hb⟩
  have C := Lib.hid (C3.out d w1 hid hd hat)
  clear C1 C2 C3 hid hat
  go_wp2_with fail
  refine C.out.mono ?_
  rintro e w2 ⟨v, rfl, hv, hb2⟩
  clear C
  go_wp2_with fail
  go_ret2
  refine ⟨v, rfl, hv, ?_⟩
  rw [← HG.out]
  exact (hWB.trans hb).trans (hb2.mono (by have h1 := hWB.size; have h2 := hb.size; have h3 := HG.out; omega))
end Go.Proofs.YtilngifollpoeaaGreatFmt
