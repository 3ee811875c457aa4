/- slices.Grow of nil; slices.Concat of three slices of bytes. -/
import Derived.Test.YtncbaejandajbaaGreatFmtWn
namespace Go.Proofs.YtncbaejandajbaaGreatFmt
open Go.RowKit

set_option maxHeartbeats 4000000 in
set_option maxRecDepth 100000 in
theorem Grow_any (x : Int) (n : Nat) (w : World) (hx : x = n) (h0 : 0 < n) (hn : n ≤ 1000000000) :
    Calls Tryz.prog 16 #[.slice none 0 0, .int .i64 x] w fun e w' => ∃ v, e = .returned v ∧ v ≠ .slice none 0 0 ∧ OwnB w.heap.size w' v [] ∧ Below w.heap.size w w' := by
  subst hx
  obtain ⟨i, hi, hz, hsz, hby⟩ := byteOne
  have hrz : ∀ ty, (Builtin.append_ #[23, 3] ty #[.slice none 0 0, .int .i64 (n : Int)]).run Tryz.prog w = _ := fun ty =>
    Lib.run_append_grow_zeros w 23 3 ty 5 i (.int .u8 0) .i64 .i64 Tryz.underlying23 Tryz.underlying3 hi hz none 0 0 [] (run_firstCells_none w.drew i.size 0 0 0) n h0 (by omega) (by omega) (by omega) (by rw [hby]; omega) (by
      rw [hby, Nat.mul_one, Nat.zero_add]
      have := nextslicecap_le (need := n) (old := 0) (by omega)
      omega)
  have hcap := grownCap_ge w (0 + n) 0 5
  have hcm := grownCap_le_maxLen w (0 + n) 0 5 (by unfold maxLen; omega)
  obtain ⟨cap, hc⟩ : ∃ cap, cap = grownCap w (0 + n) 0 5 := ⟨_, rfl⟩
  rw [← hc] at hrz hcap hcm
  simp only [Nat.zero_add] at hrz hcap
  obtain ⟨cs, hcs⟩ : ∃ cs, cs = ([] : List Value).toArray ++ Builtin.zeroCells (Value.int .u8 0).cells n ++ Builtin.zeroCells (Value.int .u8 0).cells (cap - n) := ⟨_, rfl⟩
  rw [← hcs] at hrz
  have hcz : cs.size = cap * 1 := by
    rw [hcs]
    simp only [Array.size_append, size_zeroCells, List.size_toArray, List.length_nil]
    show 0 + n * 1 + (cap - n) * 1 = _
    omega
  have hown : OwnB w.heap.size (w.drew.alloc (.cells cs 5)) (.slice (some ⟨w.heap.size, 0, none⟩) 0 cap) [] :=
    ⟨rfl, .inr ⟨w.heap.size, cap, cs, rfl, Nat.le_refl _, heap_alloc_new w.drew _, Nat.zero_le _, hcm, hcz, rfl⟩⟩
  have hb : Below w.heap.size w (w.drew.alloc (.cells cs 5)) := (below_drewN (Below.refl _ _) 1).alloc (Nat.le_refl _) _
  have HO := Lib.hid hown
  have HB := Lib.hid hb
  have hcI : (0 : Int) ≤ cap := by omega
  have hcI2 : (cap : Int) ≤ 9223372036854775807 := by unfold maxLen at hcm; omega
  have hnI : (0 : Int) < n := by omega
  have hnI2 : ¬ ((n : Int) < 0) := by omega
  clear hown hb hcz hcs hc
  go_enter Tryz.func16, Tryz.ntmps16
  go_wp2_with (at_builtin; refine Lib.wpList_append_run _ rfl _ _ _ _ rfl _ _ rfl rfl _ _ (hrz _) ?_)
  go_ret
  exact ⟨_, rfl, by simp, HO.out, HB.out⟩

set_option maxHeartbeats 8000000 in
set_option maxRecDepth 100000 in
theorem Concat_any (g c : Nat) (v1 v2 v3 : Value) (k1 k2 k3 : List UInt8) (w : World) (t : TypeId) (hg : Blk w g t #[v1, v2, v3]) (h1 : SrcB w v1 k1) (h2 : SrcB w v2 k2) (h3 : SrcB w v3 k3)
    (h0 : 0 < k1.length) (hl : k1.length + k2.length + k3.length ≤ 1000000) :
    Calls Tryz.prog 5 #[.slice (some ⟨g, 0, none⟩) 3 c] w (NewB (k1 ++ k2 ++ k3) w) := by
  have S1 := Lib.hid h1
  have S2 := Lib.hid h2
  have S3 := Lib.hid h3
  obtain ⟨ao1, c1, e1, _, _⟩ := h1
  obtain ⟨ao2, c2, e2, _, _⟩ := h2
  obtain ⟨ao3, c3, e3, _, _⟩ := h3
  have d1 : w.cell? ⟨g, 0, none⟩ = some v1 := (hg.cell 0).trans rfl
  have d2 : w.cell? ⟨g, 1, none⟩ = some v2 := (hg.cell 1).trans rfl
  have d3 : w.cell? ⟨g, 2, none⟩ = some v3 := (hg.cell 2).trans rfl
  have hgl := hg.lt
  obtain ⟨n1, hn1⟩ : ∃ n, n = k1.length := ⟨_, rfl⟩
  obtain ⟨n2, hn2⟩ : ∃ n, n = k2.length := ⟨_, rfl⟩
  obtain ⟨n3, hn3⟩ : ∃ n, n = k3.length := ⟨_, rfl⟩
  rw [← hn1, ← hn2, ← hn3] at hl
  rw [← hn1] at h0 e1
  rw [← hn2] at e2
  rw [← hn3] at e3
  have D1 := Lib.hid d1
  have D2 := Lib.hid d2
  have D3 := Lib.hid d3
  have E1 := Lib.hid e1
  have E2 := Lib.hid e2
  have E3 := Lib.hid e3
  have L1 := Lib.hid hn1
  have L2 := Lib.hid hn2
  have L3 := Lib.hid hn3
  rw [e1] at d1
  rw [e2] at d2
  rw [e3] at d3
  clear hg e1 e2 e3 hn1 hn2 hn3
  go_enter Tryz.func5, Tryz.ntmps5
  go_wp2_with fail
  refine wp_loop_rounds 4 ?_
  rw [rounds_succ]
  go_wp2_with fail
  rw [rounds_succ]
  go_wp2_with fail
  rw [rounds_succ]
  go_wp2_with fail
  rw [rounds_succ]
  go_wp2_with fail
  refine (Grow_any _ (n1 + n2 + n3) _ (by omega) (by omega) (by omega)).mono ?_
  rintro e w1 ⟨g0, rfl, hne0, hown0, hb0⟩
  have d1 : w1.cell? ⟨g, 0, none⟩ = some v1 := (hb0.cell (p := ⟨g, 0, none⟩) hgl).trans D1.out
  have d2 : w1.cell? ⟨g, 1, none⟩ = some v2 := (hb0.cell (p := ⟨g, 1, none⟩) hgl).trans D2.out
  have d3 : w1.cell? ⟨g, 2, none⟩ = some v3 := (hb0.cell (p := ⟨g, 2, none⟩) hgl).trans D3.out
  obtain ⟨a1, W1, hrun1, hown1, hne1, hb1⟩ := appendOwn w.heap.size g0 v1 [] k1 w1 23 hown0 (S1.out.below hb0) hb0.size (by have := L1.out; simp; omega)
  have B1 := hb0.trans hb1
  obtain ⟨a2, W2, hrun2, hown2, hne2, hb2⟩ := appendOwn w.heap.size a1 v2 ([] ++ k1) k2 W1 23 hown1 (S2.out.below B1) B1.size (by have := L1.out; have := L2.out; simp; omega)
  have B2 := B1.trans hb2
  obtain ⟨a3, W3, hrun3, hown3, hne3, hb3⟩ := appendOwn w.heap.size a2 v3 ([] ++ k1 ++ k2) k3 W2 23 hown2 (S3.out.below B2) B2.size (by have := L1.out; have := L2.out; have := L3.out; simp; omega)
  have B3 := B2.trans hb3
  have c2' : W1.cell? ⟨g, 1, none⟩ = some v2 := (B1.cell (p := ⟨g, 1, none⟩) hgl).trans D2.out
  have c3' : W2.cell? ⟨g, 2, none⟩ = some v3 := (B2.cell (p := ⟨g, 2, none⟩) hgl).trans D3.out
  have HR : Hid (Rd W3 W3.heap.size a3 (k1 ++ k2 ++ k3)) := Lib.hid (by
    have h := hown3.rd (fun e => hne0 (hne1 (hne2 (hne3 e).1).1).1)
    simpa using h)
  have HB := Lib.hid B3
  clear hown0 hown1 hown2 hown3 hne0 hne1 hne2 hne3 hb1 hb2 hb3 B1 B2 B3 hb0 d2 d3
  go_wp2_with fail
  refine wp_loop_rounds 4 ?_
  rw [rounds_succ]
  go_wp2_with (at_builtin; refine Lib.wpList_append_run _ rfl _ _ _ _ rfl _ _ rfl rfl _ _ hrun1 ?_)
  rw [rounds_succ]
  go_wp2_with (at_builtin; refine Lib.wpList_append_run _ rfl _ _ _ _ rfl _ _ rfl rfl _ _ hrun2 ?_)
  rw [rounds_succ]
  go_wp2_with (at_builtin; refine Lib.wpList_append_run _ rfl _ _ _ _ rfl _ _ rfl rfl _ _ hrun3 ?_)
  rw [rounds_succ]
  go_wp2_with fail
  go_ret
  exact ⟨a3, rfl, HR.out, HB.out⟩
end Go.Proofs.YtncbaejandajbaaGreatFmt
