/- SHA-256: the last block, the sum. -/
import Derived.Test.YtilngifollpoeaaGreatFmtShaC
import Derived.Test.YtilngifollpoeaaGreatFmtPid
import Derived.StillTailTactics
namespace Go.Proofs.YtilngifollpoeaaGreatFmt
open Go.RowKit

/-- The number of bytes ahead of the length in the padding. -/
def padT (len : Nat) : Nat := if len % 64 < 56 then 56 - len % 64 else 120 - len % 64

/-- The cells of the padding. -/
def padF (len : Nat) : Nat → Nat := put8 (updF (fun _ => 0) 0 128) (padT len) ((8 * len : Nat) : Int)

theorem padF_lt (len j : Nat) : padF len j < 256 := put8_lt (updF_lt (fun _ => by decide) (by decide)) j

/-- The bytes of a row of cells. -/
def bytesF (F : Nat → Nat) (n : Nat) : List UInt8 := (List.range n).map fun j => (F j).toUInt8

theorem bytesF_len (F : Nat → Nat) (n : Nat) : (bytesF F n).length = n := by simp [bytesF]

theorem bytesF_rd {w : World} {d m n : Nat} {T : TypeId} {F : Nat → Nat} (h : Blk w d T (cellsF m F)) (hF : ∀ j, F j < 256) (hn : n ≤ m) : RdAt w d 0 (bytesF F n) := by
  refine Blk.rd h 0 _ (fun j y hy => ?_)
  have hj : j < n := by have := (List.getElem?_eq_some_iff.1 hy).1; rw [bytesF_len] at this; exact this
  unfold bytesF at hy
  rw [List.getElem?_map, List.getElem?_range hj] at hy
  cases hy
  rw [Nat.zero_add, cellsF_at m F (by omega)]
  have := hF j
  rw [show (F j).toUInt8.toNat = F j from by simp [Nat.toUInt8]; omega]

/-- The digest behind the last block. -/
def finD (kf : Nat → Int) (d : Dg) : Dg := wr kf d (bytesF (padF d.len) (padT d.len + 8))

/-- The cells of the sum. -/
def outF8 (h : Nat → Int) : Nat → Nat := put4 (put4 (put4 (put4 (put4 (put4 (put4 (put4 (fun _ => 0) 0 (h 0)) 4 (h 1)) 8 (h 2)) 12 (h 3)) 16 (h 4)) 20 (h 5)) 24 (h 6)) 28 (h 7)

theorem outF8_lt (h : Nat → Int) (j : Nat) : outF8 h j < 256 := put4_lt (put4_lt (put4_lt (put4_lt (put4_lt (put4_lt (put4_lt (put4_lt (fun _ => by decide))))))) ) j

theorem cs_facts {w w1 : World} {T1 T2 : TypeId} {cs1 cs2 : Array Value} (h2 : But (w.heap.size + 1) ((w.alloc (.cells cs1 T1)).alloc (.cells cs2 T2)) w1) : Below w.heap.size w w1 ∧ Blk w1 w.heap.size T1 cs1 ∧ w.heap.size + 2 ≤ w1.heap.size := by
  have A0 : Below w.heap.size w ((w.alloc (.cells cs1 T1)).alloc (.cells cs2 T2)) := ((Below.refl _ w).alloc (Nat.le_refl _) _).alloc (by simp) _
  have hs := h2.size
  have h0 : ((w.alloc (.cells cs1 T1)).alloc (.cells cs2 T2)).heap.size = w.heap.size + 2 := by simp
  refine ⟨A0.trans (But.below h2 (by omega) (by omega)), ?_, by omega⟩
  exact Blk.grown ((Blk.new w T1 cs1).alloc _) h2 (fun e => by injection e; omega)

theorem But.fresh {g D : Nat} {a b c : World} (h : But g a b) (k : But D b c) (hD : a.heap.size ≤ D) : But g a c :=
  ⟨k.os.trans h.os, k.tape.trans h.tape, k.output.trans h.output, Nat.le_trans h.size k.size, fun j hj hne => (k.block j (Nat.lt_of_lt_of_le hj h.size) (fun e => by injection e with e; omega)).trans (h.block j hj hne)⟩

theorem finD_nx (kf : Nat → Int) (d : Dg) (hnx : d.nx = d.len % 64) : (finD kf d).nx = 0 := by
  unfold finD wr
  split
  · rename_i h0
    show (bytesF _ _).length % 64 = 0
    rw [bytesF_len]
    unfold padT
    rw [hnx] at h0
    rw [h0]
    decide
  · rfl

set_option maxHeartbeats 8000000 in
set_option maxRecDepth 100000 in
theorem checkSum_any (g : Nat) (d : Dg) (kf : Nat → Int) (w : World) (hd : DgAt w g d) (hlen : d.len < 50000) (hnx : d.nx = d.len % 64) (hgK : g ≠ 25)
    (hk : ∀ i, i < 64 → w.cell? ⟨25, i, none⟩ = some (.int .u32 (kf i))) :
    Calls Tryz.prog 245 #[.pointer (some ⟨g, 0, none⟩)] w fun e w' => e = .returned (.agg (cellsF 32 (outF8 (finD kf d).h))) ∧ w'.cell? ⟨g, 74, none⟩ = some (.bool false) ∧ But g w w' := by
  have hgl := hd.lt
  obtain ⟨len, hln⟩ : ∃ len, len = d.len := ⟨_, rfl⟩
  rw [← hln] at hlen
  have c73 : w.cell? ⟨g, 73, none⟩ = some (.int .u64 (len : Int)) := by rw [hln]; exact (hd.cell 73).trans (digC_get _ _ _ _ (by decide))
  obtain ⟨r, hr⟩ : ∃ r, r = len % 64 := ⟨_, rfl⟩
  have hrI : (len : Int) % 64 = r := by omega
  have hr64 : r < 64 := by omega
  obtain ⟨t, ht⟩ : ∃ t, t = padT len := ⟨_, rfl⟩
  have htr : t = if r < 56 then 56 - r else 120 - r := by rw [ht, hr]; rfl
  obtain ⟨n, hn⟩ : ∃ n, n = t + 8 := ⟨_, rfl⟩
  have ht8 : (t : Int) + 8 = (n : Int) := by omega
  have ht64 : t ≤ 64 := by rw [htr]; split <;> omega
  obtain ⟨q, hq⟩ : ∃ q, q = 8 * len := ⟨_, rfl⟩
  have hq8 : (len : Int) * 8 = (q : Int) := by omega
  obtain ⟨R, hR⟩ : ∃ R, R = w.heap.size := ⟨_, rfl⟩
  have hn72 : (n : Int) ≤ 72 := by omega
  have hn72N : n ≤ 72 := by omega
  have htn : (t : Int) ≤ n := by omega
  have htnN : t ≤ n := by omega
  have ht72 : (t : Int) ≤ 72 := by omega
  have HL := Lib.hid hln
  have HRR := Lib.hid hR
  have HT := Lib.hid ht
  have HN := Lib.hid hn
  have HQ := Lib.hid hq
  have HD := Lib.hid hd
  have HX := Lib.hid hnx
  have HR := Lib.hid hr
  have HK := Lib.hid hk
  clear hln hR ht hn hq hd hnx hr hk
  have htnI : t + 8 = n := by omega
  have hqL : q = 8 * len := HQ.out
  have C1 := Lib.hid fun (W : World) (M : Nat) (hb : Blk W M 289 (cellsF 72 (updF (fun _ => 0) 0 128))) => bE64_any M t (n - t) (72 - t) 72 289 (updF (fun _ => 0) 0 128) (q : Int) W hb (by omega) (by omega)
  rw [show put8 (updF (fun _ => 0) 0 128) t (q : Int) = padF len from by rw [hqL, HT.out]; rfl] at C1
  have C2 := Lib.hid fun (W : World) (M : Nat) (hM : M ≠ g) (hb : Blk W M 289 (cellsF 72 (padF len))) (hd : DgAt W g d) (hk : ∀ i, i < 64 → W.cell? ⟨25, i, none⟩ = some (.int .u32 (kf i))) =>
    Wr_any g M 0 n 72 d kf (bytesF (padF len) n) W hd (bytesF_rd hb (padF_lt len) hn72N) (bytesF_len _ _) hM hb.lt hn72N (by unfold maxLen; omega) (by omega) (by omega) (by rw [← HL.out]; omega) hgK hk (by
      rw [HX.out, ← HL.out, ← HR.out]
      by_cases h0 : r = 0
      · exact .inl h0
      · refine .inr ⟨by omega, hr64, ?_⟩
        by_cases h56 : r < 56
        · rw [if_pos h56] at htr; omega
        · rw [if_neg h56] at htr; omega)
  rw [show wr kf d (bytesF (padF len) n) = finD kf d from by unfold finD; rw [← HL.out, ← HT.out, htnI]] at C2
  have hfnx := finD_nx kf d HX.out
  obtain ⟨fd, hfd⟩ : ∃ fd, fd = finD kf d := ⟨_, rfl⟩
  rw [← hfd] at C2 hfnx ⊢
  obtain ⟨cs, hcs⟩ : ∃ cs, cs = cellsF 32 (outF8 fd.h) := ⟨_, rfl⟩
  rw [← hcs]
  have HC := Lib.hid hcs
  have HFN := Lib.hid hfnx
  clear hcs hfd hfnx
  have key : ((r : Int) < 56) = True ∧ (56 : Int) - r = t ∨ ((r : Int) < 56) = False ∧ (120 : Int) - r = t := by
    by_cases h56 : r < 56
    · rw [if_pos h56] at htr
      exact .inl ⟨by simp; omega, by omega⟩
    · rw [if_neg h56] at htr
      exact .inr ⟨by simp; omega, by omega⟩
  have C4 := Lib.hid fun (W : World) (D o m : Nat) (F : Nat → Nat) (v : Int) (hm : m = 32 - o) (hb : Blk W D 262 (cellsF 32 F)) (ho : o + 4 ≤ 32) => bE32_any D o m m 32 262 F v W hb (by omega) ho
  clear htr hqL htnI
  have zc : Tryz.zeroCells289.setIfInBounds 0 (.int .u8 128) = cellsF 72 (updF (fun _ => 0) 0 128) := by
    rw [show Tryz.zeroCells289 = cellsF 72 (fun _ => 0) from by rfl]
    exact cellsF_set _ _ 128
  rcases key with ⟨hI, e5⟩ | ⟨hI, e5⟩
  all_goals
    go_enter Tryz.func245, Tryz.ntmps245
    go_wp2_with fail
    refine (C1.out _ (w.heap.size + 1) (heap_alloc2_new w _ _)).mono ?_
    rintro e w1 ⟨rfl, h1, h2⟩
    obtain ⟨B1, R1, s1⟩ := cs_facts h2
    rw [zero32] at R1
    have C3 := Lib.hid (C2.out w1 (w.heap.size + 1) (by omega) h1 (HD.out.on B1) (fun i hi => by
      have h0 := HK.out i hi
      exact (B1.cell (p := ⟨25, i, none⟩) (KAt.lt (kf := kf) HK.out)).trans h0))
    rw [← HRR.out] at B1 R1 s1 C3 ⊢
    clear C1 C2 h1 h2
    go_wp2_with fail
    refine C3.out.mono ?_
    rintro e w2 ⟨rfl, h1, h2⟩
    have c72 : w2.cell? ⟨g, 72, none⟩ = some (.int .i64 (fd.nx : Int)) := (h1.cell 72).trans (digC_get _ _ _ _ (by decide))
    rw [HFN.out] at c72
    have R2 := Blk.grown R1 h2 (fun e => by injection e with e; have := HRR.out; omega)
    have s2 := h2.size
    have b2 : But g w w2 := But.trans (But.ofBelow (by rw [← HRR.out]; exact B1)) h2
    have H1 := Lib.hid h1
    have H2 := Lib.hid R2
    have HB := Lib.hid b2
    have HS := Lib.hid (show R + 2 ≤ w2.heap.size by omega)
    clear C3 B1 R1 s1 h1 h2 R2 s2 b2
    go_upto_region 15 with (fail)
    rw [zero32]
    have D1 : Blk (w2.alloc (.cells (cellsF 32 (fun _ => 0)) 262)) w2.heap.size 262 (cellsF 32 (fun _ => 0)) := Blk.new w2 _ _
    have D2 : Below w2.heap.size w2 (w2.alloc (.cells (cellsF 32 (fun _ => 0)) 262)) := (Below.refl _ _).alloc (Nat.le_refl _) _
    have D3 := H1.out.on D2
    have D4 := H2.out.on D2
    have D5 : But g w2 (w2.alloc (.cells (cellsF 32 (fun _ => 0)) 262)) := But.ofBelow D2
    have D6 := But.trans HB.out D5
    have hgD : g ≠ w2.heap.size := by have := H1.out.lt; omega
    have hRD : R ≠ w2.heap.size := by have := HS.out; omega
    obtain ⟨D, hDD⟩ : ∃ D, D = w2.heap.size := ⟨_, rfl⟩
    have HS0 := Lib.hid (show R ≤ D by have := HS.out; omega)
    rw [← hDD] at D1 hgD hRD ⊢
    obtain ⟨W, hWW⟩ : ∃ W, W = w2.alloc (.cells (cellsF 32 (fun _ => 0)) 262) := ⟨_, rfl⟩
    rw [← hWW] at D1 D3 D4 D6 ⊢
    clear D2 D5 hWW hDD HB H1 H2 HS c72
    have hwD : w.heap.size ≤ D := by
      have h1 := HS0.out
      have h2 := HRR.out
      omega
    obtain ⟨D1, D3, D4, D6⟩ := And.intro (Lib.hid D1) (And.intro (Lib.hid D3) (And.intro (Lib.hid D4) (Lib.hid D6)))
    have c0 := (Blk.cell D3.out 0).trans (digC_h fd.h _ _ _ (by decide : 0 < 8))
    refine wp_region_still_tail 6 (by kernel_rfl) (by kernel_rfl) ?_
    simp only [List.take_succ_cons, List.take_zero, List.drop_succ_cons, List.drop_zero]
    repeat still_step
    refine wpStill_nil ?_
    change wpList _ _ _ _ _ W.drew
    go_wp2_with fail
    refine (C4.out W.drew D 0 32 (fun _ => 0) (fd.h 0) rfl D1.out.drew (by decide)).mono ?_
    rintro e W' ⟨rfl, d1, d2⟩
    have E1 := Lib.hid d1
    have E3 := Lib.hid (Blk.grown (Blk.drew D3.out) d2 (fun e => hgD (by injection e)))
    have E4 := Lib.hid (Blk.grown (Blk.drew D4.out) d2 (fun e => hRD (by injection e)))
    have E6 := Lib.hid (But.fresh (But.drew D6.out) d2 hwD)
    clear c0 D1 D3 D4 D6 d1 d2
    obtain ⟨W, hWW⟩ : ∃ W, W = W' := ⟨_, rfl⟩
    subst hWW
    obtain ⟨D1, D3, D4, D6⟩ := And.intro E1 (And.intro E3 (And.intro E4 E6))
    clear E1 E3 E4 E6
    have c74 := (Blk.cell D3.out 74).trans (digC_get fd.h _ _ _ (by decide : 74 < 75))
    simp at c74
    clear c74
    go_upto_region 16 with (fail)
    have c0 := (Blk.cell D3.out 1).trans (digC_h fd.h _ _ _ (by decide : 1 < 8))
    refine wp_region_still_tail 6 (by kernel_rfl) (by kernel_rfl) ?_
    simp only [List.take_succ_cons, List.take_zero, List.drop_succ_cons, List.drop_zero]
    repeat still_step
    refine wpStill_nil ?_
    change wpList _ _ _ _ _ W.drew
    go_wp2_with fail
    refine (C4.out W.drew D 4 28 (put4 (fun _ => 0) 0 (fd.h 0)) (fd.h 1) rfl D1.out.drew (by decide)).mono ?_
    rintro e W' ⟨rfl, d1, d2⟩
    have E1 := Lib.hid d1
    have E3 := Lib.hid (Blk.grown (Blk.drew D3.out) d2 (fun e => hgD (by injection e)))
    have E4 := Lib.hid (Blk.grown (Blk.drew D4.out) d2 (fun e => hRD (by injection e)))
    have E6 := Lib.hid (But.fresh (But.drew D6.out) d2 hwD)
    clear c0 D1 D3 D4 D6 d1 d2
    obtain ⟨W, hWW⟩ : ∃ W, W = W' := ⟨_, rfl⟩
    subst hWW
    obtain ⟨D1, D3, D4, D6⟩ := And.intro E1 (And.intro E3 (And.intro E4 E6))
    clear E1 E3 E4 E6
    go_upto_region 17 with (fail)
    have c0 := (Blk.cell D3.out 2).trans (digC_h fd.h _ _ _ (by decide : 2 < 8))
    refine wp_region_still_tail 6 (by kernel_rfl) (by kernel_rfl) ?_
    simp only [List.take_succ_cons, List.take_zero, List.drop_succ_cons, List.drop_zero]
    repeat still_step
    refine wpStill_nil ?_
    change wpList _ _ _ _ _ W.drew
    go_wp2_with fail
    refine (C4.out W.drew D 8 24 (put4 (put4 (fun _ => 0) 0 (fd.h 0)) 4 (fd.h 1)) (fd.h 2) rfl D1.out.drew (by decide)).mono ?_
    rintro e W' ⟨rfl, d1, d2⟩
    have E1 := Lib.hid d1
    have E3 := Lib.hid (Blk.grown (Blk.drew D3.out) d2 (fun e => hgD (by injection e)))
    have E4 := Lib.hid (Blk.grown (Blk.drew D4.out) d2 (fun e => hRD (by injection e)))
    have E6 := Lib.hid (But.fresh (But.drew D6.out) d2 hwD)
    clear c0 D1 D3 D4 D6 d1 d2
    obtain ⟨W, hWW⟩ : ∃ W, W = W' := ⟨_, rfl⟩
    subst hWW
    obtain ⟨D1, D3, D4, D6⟩ := And.intro E1 (And.intro E3 (And.intro E4 E6))
    clear E1 E3 E4 E6
    go_upto_region 18 with (fail)
    have c0 := (Blk.cell D3.out 3).trans (digC_h fd.h _ _ _ (by decide : 3 < 8))
    refine wp_region_still_tail 6 (by kernel_rfl) (by kernel_rfl) ?_
    simp only [List.take_succ_cons, List.take_zero, List.drop_succ_cons, List.drop_zero]
    repeat still_step
    refine wpStill_nil ?_
    change wpList _ _ _ _ _ W.drew
    go_wp2_with fail
    refine (C4.out W.drew D 12 20 (put4 (put4 (put4 (fun _ => 0) 0 (fd.h 0)) 4 (fd.h 1)) 8 (fd.h 2)) (fd.h 3) rfl D1.out.drew (by decide)).mono ?_
    rintro e W' ⟨rfl, d1, d2⟩
    have E1 := Lib.hid d1
    have E3 := Lib.hid (Blk.grown (Blk.drew D3.out) d2 (fun e => hgD (by injection e)))
    have E4 := Lib.hid (Blk.grown (Blk.drew D4.out) d2 (fun e => hRD (by injection e)))
    have E6 := Lib.hid (But.fresh (But.drew D6.out) d2 hwD)
    clear c0 D1 D3 D4 D6 d1 d2
    obtain ⟨W, hWW⟩ : ∃ W, W = W' := ⟨_, rfl⟩
    subst hWW
    obtain ⟨D1, D3, D4, D6⟩ := And.intro E1 (And.intro E3 (And.intro E4 E6))
    clear E1 E3 E4 E6
    go_upto_region 19 with (fail)
    have c0 := (Blk.cell D3.out 4).trans (digC_h fd.h _ _ _ (by decide : 4 < 8))
    refine wp_region_still_tail 6 (by kernel_rfl) (by kernel_rfl) ?_
    simp only [List.take_succ_cons, List.take_zero, List.drop_succ_cons, List.drop_zero]
    repeat still_step
    refine wpStill_nil ?_
    change wpList _ _ _ _ _ W.drew
    go_wp2_with fail
    refine (C4.out W.drew D 16 16 (put4 (put4 (put4 (put4 (fun _ => 0) 0 (fd.h 0)) 4 (fd.h 1)) 8 (fd.h 2)) 12 (fd.h 3)) (fd.h 4) rfl D1.out.drew (by decide)).mono ?_
    rintro e W' ⟨rfl, d1, d2⟩
    have E1 := Lib.hid d1
    have E3 := Lib.hid (Blk.grown (Blk.drew D3.out) d2 (fun e => hgD (by injection e)))
    have E4 := Lib.hid (Blk.grown (Blk.drew D4.out) d2 (fun e => hRD (by injection e)))
    have E6 := Lib.hid (But.fresh (But.drew D6.out) d2 hwD)
    clear c0 D1 D3 D4 D6 d1 d2
    obtain ⟨W, hWW⟩ : ∃ W, W = W' := ⟨_, rfl⟩
    subst hWW
    obtain ⟨D1, D3, D4, D6⟩ := And.intro E1 (And.intro E3 (And.intro E4 E6))
    clear E1 E3 E4 E6
    go_upto_region 20 with (fail)
    have c0 := (Blk.cell D3.out 5).trans (digC_h fd.h _ _ _ (by decide : 5 < 8))
    refine wp_region_still_tail 6 (by kernel_rfl) (by kernel_rfl) ?_
    simp only [List.take_succ_cons, List.take_zero, List.drop_succ_cons, List.drop_zero]
    repeat still_step
    refine wpStill_nil ?_
    change wpList _ _ _ _ _ W.drew
    go_wp2_with fail
    refine (C4.out W.drew D 20 12 (put4 (put4 (put4 (put4 (put4 (fun _ => 0) 0 (fd.h 0)) 4 (fd.h 1)) 8 (fd.h 2)) 12 (fd.h 3)) 16 (fd.h 4)) (fd.h 5) rfl D1.out.drew (by decide)).mono ?_
    rintro e W' ⟨rfl, d1, d2⟩
    have E1 := Lib.hid d1
    have E3 := Lib.hid (Blk.grown (Blk.drew D3.out) d2 (fun e => hgD (by injection e)))
    have E4 := Lib.hid (Blk.grown (Blk.drew D4.out) d2 (fun e => hRD (by injection e)))
    have E6 := Lib.hid (But.fresh (But.drew D6.out) d2 hwD)
    clear c0 D1 D3 D4 D6 d1 d2
    obtain ⟨W, hWW⟩ : ∃ W, W = W' := ⟨_, rfl⟩
    subst hWW
    obtain ⟨D1, D3, D4, D6⟩ := And.intro E1 (And.intro E3 (And.intro E4 E6))
    clear E1 E3 E4 E6
    go_upto_region 21 with (fail)
    have c0 := (Blk.cell D3.out 6).trans (digC_h fd.h _ _ _ (by decide : 6 < 8))
    refine wp_region_still_tail 6 (by kernel_rfl) (by kernel_rfl) ?_
    simp only [List.take_succ_cons, List.take_zero, List.drop_succ_cons, List.drop_zero]
    repeat still_step
    refine wpStill_nil ?_
    change wpList _ _ _ _ _ W.drew
    go_wp2_with fail
    refine (C4.out W.drew D 24 8 (put4 (put4 (put4 (put4 (put4 (put4 (fun _ => 0) 0 (fd.h 0)) 4 (fd.h 1)) 8 (fd.h 2)) 12 (fd.h 3)) 16 (fd.h 4)) 20 (fd.h 5)) (fd.h 6) rfl D1.out.drew (by decide)).mono ?_
    rintro e W' ⟨rfl, d1, d2⟩
    have E1 := Lib.hid d1
    have E3 := Lib.hid (Blk.grown (Blk.drew D3.out) d2 (fun e => hgD (by injection e)))
    have E4 := Lib.hid (Blk.grown (Blk.drew D4.out) d2 (fun e => hRD (by injection e)))
    have E6 := Lib.hid (But.fresh (But.drew D6.out) d2 hwD)
    clear c0 D1 D3 D4 D6 d1 d2
    obtain ⟨W, hWW⟩ : ∃ W, W = W' := ⟨_, rfl⟩
    subst hWW
    obtain ⟨D1, D3, D4, D6⟩ := And.intro E1 (And.intro E3 (And.intro E4 E6))
    clear E1 E3 E4 E6
    have c74 : W.cell? ⟨g, 74, none⟩ = some (.bool false) := (Blk.cell D3.out 74).trans (digC_get fd.h _ _ _ (by decide : 74 < 75))
    go_upto_region 23 with (fail)
    have c0 := (Blk.cell D3.out 7).trans (digC_h fd.h _ _ _ (by decide : 7 < 8))
    refine wp_region_still_tail 6 (by kernel_rfl) (by kernel_rfl) ?_
    simp only [List.take_succ_cons, List.take_zero, List.drop_succ_cons, List.drop_zero]
    repeat still_step
    refine wpStill_nil ?_
    change wpList _ _ _ _ _ W.drew
    go_wp2_with fail
    refine (C4.out W.drew D 28 4 (put4 (put4 (put4 (put4 (put4 (put4 (put4 (fun _ => 0) 0 (fd.h 0)) 4 (fd.h 1)) 8 (fd.h 2)) 12 (fd.h 3)) 16 (fd.h 4)) 20 (fd.h 5)) 24 (fd.h 6)) (fd.h 7) rfl D1.out.drew (by decide)).mono ?_
    rintro e W' ⟨rfl, d1, d2⟩
    have E1 := Lib.hid d1
    have E3 := Lib.hid (Blk.grown (Blk.drew D3.out) d2 (fun e => hgD (by injection e)))
    have E4 := Lib.hid (Blk.grown (Blk.drew D4.out) d2 (fun e => hRD (by injection e)))
    have E6 := Lib.hid (But.fresh (But.drew D6.out) d2 hwD)
    clear c0 D1 D3 D4 D6 d1 d2
    obtain ⟨W, hWW⟩ : ∃ W, W = W' := ⟨_, rfl⟩
    subst hWW
    obtain ⟨D1, D3, D4, D6⟩ := And.intro E1 (And.intro E3 (And.intro E4 E6))
    clear E1 E3 E4 E6
    have hsz : (Tryz.prog.info? 262).map (·.size) = some (cellsF 32 (outF8 fd.h)).size := by rw [cellsF_size]; kernel_rfl
    have hall : (cellsF 32 (outF8 fd.h)).all (·.oneCell') = true := by
      rw [Array.all_eq_true]
      intro i hi
      simp [cellsF, Value.oneCell']
    have L1 : Blk W D 262 (cellsF 32 (outF8 fd.h)) := D1.out
    have L4 := D4.out
    have hcs := HC.out
    obtain ⟨cs0, hcs0⟩ : ∃ cs, cs = cellsF 32 (fun _ => 0) := ⟨_, rfl⟩
    have hcz : cs0.size = cs.size := by rw [hcs, hcs0, cellsF_size, cellsF_size]
    rw [← hcs] at L1 hsz hall
    rw [← hcs0] at L4
    clear hcs hcs0 D1 D4
    go_upto_region 24 with (fail)
    go_wp2_with (first
      | refine wpList_load_row rfl 262 (.tmp 7) rfl D rfl 262 cs (0, 0) _ L1 Tryz.underlying262 rfl hsz ?_
      | refine wpList_store_row rfl 262 (.tmp 2) (.tmp 103) rfl R cs rfl rfl 262 cs0 L4 hsz hcz hall ?_)
    refine bodyPost_ret (v := .agg cs) ?_ rfl ?_
    · exact results_cell_row (p := 2) (ty := 262) Tryz.results245 _ _ R 262 cs (0, 0) _ rfl (setRow_heap W R cs0 cs 262 (0, 0) L4) Tryz.underlying262 rfl hsz
    · exact ⟨rfl, (Blk.cell (w := W.setRow R cs) ((setRow_other _ R g _ (by have := HRR.out; omega)).trans D3.out) 74).trans (digC_get _ _ _ _ (by decide)), But.fresh D6.out (show But R W (W.setRow R cs) from ⟨rfl, rfl, rfl, by simp, fun k hk hne => setRow_other _ R k _ (fun e => hne (by rw [e]))⟩) (Nat.le_of_eq HRR.out.symm)⟩
end Go.Proofs.YtilngifollpoeaaGreatFmt
