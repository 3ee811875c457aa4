/- base32: Encode. -/
import Derived.Test.YtilngifollpoeaaGreatFmtB32b
import Derived.Test.YtilngifollpoeaaGreatFmtBase
import Derived.Lib.VarintBits
namespace Go.Proofs.YtilngifollpoeaaGreatFmt
open Go.RowKit
set_option linter.unusedSimpArgs false

/-- A row of bytes as its cells. -/
def cellsF (m : Nat) (F : Nat → Nat) : Array Value := Array.ofFn (n := m) fun i => .int .u8 ((F i.val : Nat) : Int)

section
variable (m : Nat) (F : Nat → Nat)
theorem cellsF_size : (cellsF m F).size = m := by simp [cellsF]
theorem cellsF_at {i : Nat} (h : i < m) : (cellsF m F)[i]? = some (.int .u8 ((F i : Nat) : Int)) := by
  rw [Array.getElem?_eq_getElem (by rw [cellsF_size]; exact h)]
  simp [cellsF]
theorem cellsF_set {i : Nat} (v : Nat) : (cellsF m F).setIfInBounds i (.int .u8 (v : Int)) = cellsF m (updF F i v) := by
  apply Array.ext
  · simp [cellsF_size]
  · intro j h1 h2
    rw [cellsF_size] at h2
    rw [Array.getElem_setIfInBounds (by rw [cellsF_size]; exact h2)]
    simp only [cellsF, Array.getElem_ofFn, updF]
    by_cases h : i = j
    · rw [if_pos h, if_pos h.symm]
    · rw [if_neg h, if_neg (fun e => h e.symm)]
theorem cellsF_ext {G : Nat → Nat} (h : ∀ i, i < m → F i = G i) : cellsF m F = cellsF m G := by
  apply Array.ext
  · simp [cellsF_size]
  · intro j h1 h2
    rw [cellsF_size] at h2
    simp only [cellsF, Array.getElem_ofFn]
    rw [h j h2]
theorem cellsF_zero : Array.replicate m (Value.int .u8 0) = cellsF m (fun _ => 0) := by
  apply Array.ext
  · simp [cellsF_size]
  · intro j h1 h2
    simp [cellsF]
end

theorem u8wrap (x : Int) : IntKind.u8.wrap x = x % 256 := by simp [IntKind.wrap, IntKind.bits, IntKind.signed]
section
variable {x y : Int}
theorem u8and31 (h0 : 0 ≤ x) (h1 : x < 256) : bits .and .u8 x 31 = x % 32 := bits_mask .u8 8 (by decide) wraps_u8 5 (by decide) x h0 h1
theorem u8or1 (hy₀ : 0 ≤ y) (hy : y < 2) (hx₀ : 0 ≤ x) (hx : x % 2 = 0) (hx₁ : x < 256) : bits .or .u8 y x = y + x := bits_join_low .u8 8 (by decide) wraps_u8 1 y x hy₀ hy (by omega) hx₀ hx hx₁
theorem u8or2 (hy₀ : 0 ≤ y) (hy : y < 4) (hx₀ : 0 ≤ x) (hx : x % 4 = 0) (hx₁ : x < 256) : bits .or .u8 y x = y + x := bits_join_low .u8 8 (by decide) wraps_u8 2 y x hy₀ hy (by omega) hx₀ hx hx₁
theorem u8or3 (hy₀ : 0 ≤ y) (hy : y < 8) (hx₀ : 0 ≤ x) (hx : x % 8 = 0) (hx₁ : x < 256) : bits .or .u8 y x = y + x := bits_join_low .u8 8 (by decide) wraps_u8 3 y x hy₀ hy (by omega) hx₀ hx hx₁
theorem u8or4 (hy₀ : 0 ≤ y) (hy : y < 16) (hx₀ : 0 ≤ x) (hx : x % 16 = 0) (hx₁ : x < 256) : bits .or .u8 y x = y + x := bits_join_low .u8 8 (by decide) wraps_u8 4 y x hy₀ hy (by omega) hx₀ hx hx₁
end

/-- The length of a slice value. -/
def slLen : Value → Nat
  | .slice _ n _ => n
  | _ => 0

set_option maxHeartbeats 8000000 in
set_option maxRecDepth 100000 in
theorem Encode_any (s : ByteArray) (a l : List UInt8) (f : Nat → Int) (g D b o n c m cm : Nat) (w : World) (hs : s.data.toList = a) (ha : a.length = 32)
    (hg : Blk w g 203 (encC s f (-1))) (hgD : g < D) (hr : RdAt w b o l) (hn : l.length = n) (hbD : b < D) (hnc : n ≤ c) (hn1 : n ≤ 1099511627776)
    (hD : Blk w D 5 (cellsF m (fun _ => 0))) (hm : m = (n * 8 + 4) / 5) (hcm : m ≤ cm) :
    Calls Tryz.prog 124 #[.pointer (some ⟨g, 0, none⟩), .slice (some ⟨D, 0, none⟩) m cm, .slice (some ⟨b, o, none⟩) n c] w fun e w' => e = .returned (.tuple #[]) ∧ Blk w' D 5 (cellsF m (elF a l)) ∧ Below D w w' := by
  have hsz : s.size = 32 := by rw [size_list hs, ha]
  have HS := Lib.hid hs
  have HG := Lib.hid hg
  have HR := Lib.hid hr
  have HD := Lib.hid hD
  clear hs hg hr hD
  by_cases hn0 : n = 0
  · subst hn0
    go_enter Tryz.func124, Tryz.ntmps124
    go_wp2
    refine bodyPost_ret (results_none rfl _ _ _) rfl ?_
    refine ⟨rfl, ?_, Below.refl _ _⟩
    refine Eq.mp (congrArg (fun cs => Blk w D 5 cs) (cellsF_ext m _ (fun i hi => ?_))) HD.out
    omega
  have hn0I : ((n : Int) == 0) = false := by rw [beq_eq_false_iff_ne]; omega
  go_enter Tryz.func124, Tryz.ntmps124
  go_wp2_with fail
  go_loopw [1, 2] (fun vd vs wr => ∃ k dO sO : Nat, 5 * k ≤ n ∧ vd = .slice (some ⟨D, dO, none⟩) (m - 8 * k) (cm - 8 * k) ∧ vs = .slice (some ⟨b, sO, none⟩) (n - 5 * k) (c - 5 * k) ∧ (5 * k < n → dO = 8 * k) ∧ (5 * k < n → sO = o + 5 * k) ∧ Hid (Blk wr D 5 (cellsF m (fun i => if i < 8 * k then elF a l i else 0))) ∧ Hid (Below D w wr))
    (fun _ vs _ => slLen vs)
  case atStart => exact ⟨0, 0, o, by omega, rfl, rfl, fun _ => rfl, fun _ => rfl, HD, Below.refl _ _⟩
  case round =>
    obtain ⟨k, dO, sO, hk, rfl, rfl, hdO, hsO, hblk, hbel⟩ := hrel
    generalize hN : n - 5 * k = N
    have hbD' : (b = D) = False := by simp; omega
    have hgD' : (g = D) = False := by simp; omega
    by_cases hNz : N = 0
    · subst hNz
      have cP : wr.cell? ⟨g, 257, none⟩ = some (.int .i32 (-1)) := (hbel.out.cell (p := ⟨g, 257, none⟩) hgD).trans ((HG.out.cell 257).trans (encC_pad _ _ _))
      go_wp2
      refine bodyPost_ret (results_none rfl _ _ _) rfl ?_
      refine ⟨rfl, ?_, hbel.out⟩
      refine Eq.mp (congrArg (fun cs => Blk _ D 5 cs) (cellsF_ext m _ (fun i hi => ?_))) hblk.out
      rw [if_pos (by omega)]
    obtain rfl : dO = 8 * k := hdO (by omega)
    obtain rfl : sO = o + 5 * k := hsO (by omega)
    clear hdO hsO
    by_cases hN5 : 4 < N
    · obtain ⟨x0, h0⟩ : ∃ x, Hid (l[5 * k]? = some x) := ⟨_, List.getElem?_eq_getElem (by omega)⟩
      obtain ⟨x1, h1⟩ : ∃ x, Hid (l[5 * k + 1]? = some x) := ⟨_, List.getElem?_eq_getElem (by omega)⟩
      obtain ⟨x2, h2⟩ : ∃ x, Hid (l[5 * k + 2]? = some x) := ⟨_, List.getElem?_eq_getElem (by omega)⟩
      obtain ⟨x3, h3⟩ : ∃ x, Hid (l[5 * k + 3]? = some x) := ⟨_, List.getElem?_eq_getElem (by omega)⟩
      obtain ⟨x4, h4⟩ : ∃ x, Hid (l[5 * k + 4]? = some x) := ⟨_, List.getElem?_eq_getElem (by omega)⟩
      have hx0 := x0.toNat_lt
      have hx1 := x1.toNat_lt
      have hx2 := x2.toNat_lt
      have hx3 := x3.toNat_lt
      have hx4 := x4.toNat_lt
      have hm8 : 8 * k + 8 ≤ m := by omega
      generalize hM : m - 8 * k = M
      have hM8 : 8 ≤ M := by omega
      have hM0I : (0 : Int) < (M : Int) := by omega
      have hM1I : (1 : Int) < (M : Int) := by omega
      have hM2I : (2 : Int) < (M : Int) := by omega
      have hM3I : (3 : Int) < (M : Int) := by omega
      have hM4I : (4 : Int) < (M : Int) := by omega
      have hM5I : (5 : Int) < (M : Int) := by omega
      have hM6I : (6 : Int) < (M : Int) := by omega
      have hM7I : (7 : Int) < (M : Int) := by omega
      have hN0I : (0 : Int) < (N : Int) := by omega
      have hN1I : (1 : Int) < (N : Int) := by omega
      have hN2I : (2 : Int) < (N : Int) := by omega
      have hN3I : (3 : Int) < (N : Int) := by omega
      have hN4I : (4 : Int) < (N : Int) := by omega
      have hM0n : 0 < M := by omega
      have hN0n : 0 < N := by omega
      go_wp2
      -- the letter 7
      have c4 : wr.cell? ⟨b, o + 5 * k + 4, none⟩ = some (.int .u8 (x4.toNat : Int)) := by rw [hbel.out.cell (p := ⟨b, _, none⟩) hbD, Nat.add_assoc]; exact HR.out _ _ h4.out
      have cG : wr.cell? ⟨g, 0, none⟩ = some (.string s) := (hbel.out.cell (p := ⟨g, 0, none⟩) hgD).trans ((HG.out.cell 0).trans (encC_zero _ _ _))
      have cd : wr.cell? ⟨D, 8 * k + 7, none⟩ = some (.int .u8 _) := (hblk.out.cell _).trans (cellsF_at _ _ (by omega))
      have fd := hblk.out.frozen (8 * k + 7)
      obtain ⟨q7, hq, hqe⟩ : ∃ q : Nat, q = x4.toNat % 32 ∧ bits .and .u8 (x4.toNat : Int) 31 = (q : Int) := ⟨_, rfl, by simp (disch := omega) only [u8and31, u8wrap, u8or1, u8or2, u8or3, u8or4]; omega⟩
      have HQ7 := Lib.hid hq
      have hq32 : q7 < 32 := by omega
      have hqs : q7 < s.size := by omega
      have hqI : (q7 : Int) < 32 := by omega
      have hq0 : (0 : Int) ≤ q7 := by omega
      obtain ⟨y7, hy⟩ : ∃ y, a[q7]? = some y := ⟨_, List.getElem?_eq_getElem (by omega)⟩
      have hsq : s[q7] = y7 := str_at HS.out hqs hy
      have HY7 := Lib.hid hy
      clear hq hy
      have hset := hblk.out.set_ (8 * k + 7) (.int .u8 (y7.toNat : Int))
      rw [cellsF_set] at hset
      have hblk1 : Hid (Blk (wr.setCell ⟨D, 8 * k + 7, none⟩ (.int .u8 (y7.toNat : Int))).drew D 5 _) := Lib.hid hset
      have hbel1 : Hid (Below D w (wr.setCell ⟨D, 8 * k + 7, none⟩ (.int .u8 (y7.toNat : Int))).drew) := Lib.hid (below_drewN (hbel.out.setCell (p := ⟨D, 8 * k + 7, none⟩) (Nat.le_refl _) (.int .u8 (y7.toNat : Int))) 1)
      clear hset
      refine wp_region_still_tail 11 (by kernel_rfl) (by kernel_rfl) ?_
      simp only [List.take_succ_cons, List.take_zero, List.drop_succ_cons, List.drop_zero]
      repeat still_step
      refine wpStill_nil ?_
      change wpList _ _ _ _ _ wr.drew
      go_wp2
      clear c4 cG cd fd hqe hq32 hqs hqI hq0 hsq
      generalize (wr.setCell ⟨D, 8 * k + 7, none⟩ (.int .u8 (y7.toNat : Int))).drew = wv1 at hblk1 hbel1
      -- the letter 6
      have c3 : wv1.cell? ⟨b, o + 5 * k + 3, none⟩ = some (.int .u8 (x3.toNat : Int)) := by rw [hbel1.out.cell (p := ⟨b, _, none⟩) hbD, Nat.add_assoc]; exact HR.out _ _ h3.out
      have c4 : wv1.cell? ⟨b, o + 5 * k + 4, none⟩ = some (.int .u8 (x4.toNat : Int)) := by rw [hbel1.out.cell (p := ⟨b, _, none⟩) hbD, Nat.add_assoc]; exact HR.out _ _ h4.out
      have cG : wv1.cell? ⟨g, 0, none⟩ = some (.string s) := (hbel1.out.cell (p := ⟨g, 0, none⟩) hgD).trans ((HG.out.cell 0).trans (encC_zero _ _ _))
      have cd : wv1.cell? ⟨D, 8 * k + 6, none⟩ = some (.int .u8 _) := (hblk1.out.cell _).trans (cellsF_at _ _ (by omega))
      have fd := hblk1.out.frozen (8 * k + 6)
      obtain ⟨q6, hq, hqe⟩ : ∃ q : Nat, q = x3.toNat % 4 * 8 + x4.toNat / 32 ∧ bits .or .u8 ((x4.toNat : Int) / 32) (bits .and .u8 (IntKind.u8.wrap ((x3.toNat : Int) * 8)) 31) = (q : Int) := ⟨_, rfl, by simp (disch := omega) only [u8and31, u8wrap, u8or1, u8or2, u8or3, u8or4]; omega⟩
      have HQ6 := Lib.hid hq
      have hq32 : q6 < 32 := by omega
      have hqs : q6 < s.size := by omega
      have hqI : (q6 : Int) < 32 := by omega
      have hq0 : (0 : Int) ≤ q6 := by omega
      obtain ⟨y6, hy⟩ : ∃ y, a[q6]? = some y := ⟨_, List.getElem?_eq_getElem (by omega)⟩
      have hsq : s[q6] = y6 := str_at HS.out hqs hy
      have HY6 := Lib.hid hy
      clear hq hy
      have hset := hblk1.out.set_ (8 * k + 6) (.int .u8 (y6.toNat : Int))
      rw [cellsF_set] at hset
      have hblk2 : Hid (Blk (wv1.setCell ⟨D, 8 * k + 6, none⟩ (.int .u8 (y6.toNat : Int))).drew D 5 _) := Lib.hid hset
      have hbel2 : Hid (Below D w (wv1.setCell ⟨D, 8 * k + 6, none⟩ (.int .u8 (y6.toNat : Int))).drew) := Lib.hid (below_drewN (hbel1.out.setCell (p := ⟨D, 8 * k + 6, none⟩) (Nat.le_refl _) (.int .u8 (y6.toNat : Int))) 1)
      clear hset
      refine wp_region_still_tail 17 (by kernel_rfl) (by kernel_rfl) ?_
      simp only [List.take_succ_cons, List.take_zero, List.drop_succ_cons, List.drop_zero]
      repeat still_step
      refine wpStill_nil ?_
      change wpList _ _ _ _ _ wv1.drew
      go_wp2
      clear c3 c4 cG cd fd hqe hq32 hqs hqI hq0 hsq
      generalize (wv1.setCell ⟨D, 8 * k + 6, none⟩ (.int .u8 (y6.toNat : Int))).drew = wv2 at hblk2 hbel2
      -- the letter 5
      have c3 : wv2.cell? ⟨b, o + 5 * k + 3, none⟩ = some (.int .u8 (x3.toNat : Int)) := by rw [hbel2.out.cell (p := ⟨b, _, none⟩) hbD, Nat.add_assoc]; exact HR.out _ _ h3.out
      have cG : wv2.cell? ⟨g, 0, none⟩ = some (.string s) := (hbel2.out.cell (p := ⟨g, 0, none⟩) hgD).trans ((HG.out.cell 0).trans (encC_zero _ _ _))
      have cd : wv2.cell? ⟨D, 8 * k + 5, none⟩ = some (.int .u8 _) := (hblk2.out.cell _).trans (cellsF_at _ _ (by omega))
      have fd := hblk2.out.frozen (8 * k + 5)
      obtain ⟨q5, hq, hqe⟩ : ∃ q : Nat, q = x3.toNat / 4 % 32 ∧ bits .and .u8 ((x3.toNat : Int) / 4) 31 = (q : Int) := ⟨_, rfl, by simp (disch := omega) only [u8and31, u8wrap, u8or1, u8or2, u8or3, u8or4]; omega⟩
      have HQ5 := Lib.hid hq
      have hq32 : q5 < 32 := by omega
      have hqs : q5 < s.size := by omega
      have hqI : (q5 : Int) < 32 := by omega
      have hq0 : (0 : Int) ≤ q5 := by omega
      obtain ⟨y5, hy⟩ : ∃ y, a[q5]? = some y := ⟨_, List.getElem?_eq_getElem (by omega)⟩
      have hsq : s[q5] = y5 := str_at HS.out hqs hy
      have HY5 := Lib.hid hy
      clear hq hy
      have hset := hblk2.out.set_ (8 * k + 5) (.int .u8 (y5.toNat : Int))
      rw [cellsF_set] at hset
      have hblk3 : Hid (Blk (wv2.setCell ⟨D, 8 * k + 5, none⟩ (.int .u8 (y5.toNat : Int))).drew D 5 _) := Lib.hid hset
      have hbel3 : Hid (Below D w (wv2.setCell ⟨D, 8 * k + 5, none⟩ (.int .u8 (y5.toNat : Int))).drew) := Lib.hid (below_drewN (hbel2.out.setCell (p := ⟨D, 8 * k + 5, none⟩) (Nat.le_refl _) (.int .u8 (y5.toNat : Int))) 1)
      clear hset
      refine wp_region_still_tail 12 (by kernel_rfl) (by kernel_rfl) ?_
      simp only [List.take_succ_cons, List.take_zero, List.drop_succ_cons, List.drop_zero]
      repeat still_step
      refine wpStill_nil ?_
      change wpList _ _ _ _ _ wv2.drew
      go_wp2
      clear c3 cG cd fd hqe hq32 hqs hqI hq0 hsq
      generalize (wv2.setCell ⟨D, 8 * k + 5, none⟩ (.int .u8 (y5.toNat : Int))).drew = wv3 at hblk3 hbel3
      -- the letter 4
      have c2 : wv3.cell? ⟨b, o + 5 * k + 2, none⟩ = some (.int .u8 (x2.toNat : Int)) := by rw [hbel3.out.cell (p := ⟨b, _, none⟩) hbD, Nat.add_assoc]; exact HR.out _ _ h2.out
      have c3 : wv3.cell? ⟨b, o + 5 * k + 3, none⟩ = some (.int .u8 (x3.toNat : Int)) := by rw [hbel3.out.cell (p := ⟨b, _, none⟩) hbD, Nat.add_assoc]; exact HR.out _ _ h3.out
      have cG : wv3.cell? ⟨g, 0, none⟩ = some (.string s) := (hbel3.out.cell (p := ⟨g, 0, none⟩) hgD).trans ((HG.out.cell 0).trans (encC_zero _ _ _))
      have cd : wv3.cell? ⟨D, 8 * k + 4, none⟩ = some (.int .u8 _) := (hblk3.out.cell _).trans (cellsF_at _ _ (by omega))
      have fd := hblk3.out.frozen (8 * k + 4)
      obtain ⟨q4, hq, hqe⟩ : ∃ q : Nat, q = x2.toNat % 16 * 2 + x3.toNat / 128 ∧ bits .or .u8 ((x3.toNat : Int) / 128) (bits .and .u8 (IntKind.u8.wrap ((x2.toNat : Int) * 2)) 31) = (q : Int) := ⟨_, rfl, by simp (disch := omega) only [u8and31, u8wrap, u8or1, u8or2, u8or3, u8or4]; omega⟩
      have HQ4 := Lib.hid hq
      have hq32 : q4 < 32 := by omega
      have hqs : q4 < s.size := by omega
      have hqI : (q4 : Int) < 32 := by omega
      have hq0 : (0 : Int) ≤ q4 := by omega
      obtain ⟨y4, hy⟩ : ∃ y, a[q4]? = some y := ⟨_, List.getElem?_eq_getElem (by omega)⟩
      have hsq : s[q4] = y4 := str_at HS.out hqs hy
      have HY4 := Lib.hid hy
      clear hq hy
      have hset := hblk3.out.set_ (8 * k + 4) (.int .u8 (y4.toNat : Int))
      rw [cellsF_set] at hset
      have hblk4 : Hid (Blk (wv3.setCell ⟨D, 8 * k + 4, none⟩ (.int .u8 (y4.toNat : Int))).drew D 5 _) := Lib.hid hset
      have hbel4 : Hid (Below D w (wv3.setCell ⟨D, 8 * k + 4, none⟩ (.int .u8 (y4.toNat : Int))).drew) := Lib.hid (below_drewN (hbel3.out.setCell (p := ⟨D, 8 * k + 4, none⟩) (Nat.le_refl _) (.int .u8 (y4.toNat : Int))) 1)
      clear hset
      refine wp_region_still_tail 17 (by kernel_rfl) (by kernel_rfl) ?_
      simp only [List.take_succ_cons, List.take_zero, List.drop_succ_cons, List.drop_zero]
      repeat still_step
      refine wpStill_nil ?_
      change wpList _ _ _ _ _ wv3.drew
      go_wp2
      clear c2 c3 cG cd fd hqe hq32 hqs hqI hq0 hsq
      generalize (wv3.setCell ⟨D, 8 * k + 4, none⟩ (.int .u8 (y4.toNat : Int))).drew = wv4 at hblk4 hbel4
      -- the letter 3
      have c1 : wv4.cell? ⟨b, o + 5 * k + 1, none⟩ = some (.int .u8 (x1.toNat : Int)) := by rw [hbel4.out.cell (p := ⟨b, _, none⟩) hbD, Nat.add_assoc]; exact HR.out _ _ h1.out
      have c2 : wv4.cell? ⟨b, o + 5 * k + 2, none⟩ = some (.int .u8 (x2.toNat : Int)) := by rw [hbel4.out.cell (p := ⟨b, _, none⟩) hbD, Nat.add_assoc]; exact HR.out _ _ h2.out
      have cG : wv4.cell? ⟨g, 0, none⟩ = some (.string s) := (hbel4.out.cell (p := ⟨g, 0, none⟩) hgD).trans ((HG.out.cell 0).trans (encC_zero _ _ _))
      have cd : wv4.cell? ⟨D, 8 * k + 3, none⟩ = some (.int .u8 _) := (hblk4.out.cell _).trans (cellsF_at _ _ (by omega))
      have fd := hblk4.out.frozen (8 * k + 3)
      obtain ⟨q3, hq, hqe⟩ : ∃ q : Nat, q = x1.toNat % 2 * 16 + x2.toNat / 16 ∧ bits .and .u8 (bits .or .u8 ((x2.toNat : Int) / 16) (IntKind.u8.wrap ((x1.toNat : Int) * 16))) 31 = (q : Int) := ⟨_, rfl, by simp (disch := omega) only [u8and31, u8wrap, u8or1, u8or2, u8or3, u8or4]; omega⟩
      have HQ3 := Lib.hid hq
      have hq32 : q3 < 32 := by omega
      have hqs : q3 < s.size := by omega
      have hqI : (q3 : Int) < 32 := by omega
      have hq0 : (0 : Int) ≤ q3 := by omega
      obtain ⟨y3, hy⟩ : ∃ y, a[q3]? = some y := ⟨_, List.getElem?_eq_getElem (by omega)⟩
      have hsq : s[q3] = y3 := str_at HS.out hqs hy
      have HY3 := Lib.hid hy
      clear hq hy
      have hset := hblk4.out.set_ (8 * k + 3) (.int .u8 (y3.toNat : Int))
      rw [cellsF_set] at hset
      have hblk5 : Hid (Blk (wv4.setCell ⟨D, 8 * k + 3, none⟩ (.int .u8 (y3.toNat : Int))).drew D 5 _) := Lib.hid hset
      have hbel5 : Hid (Below D w (wv4.setCell ⟨D, 8 * k + 3, none⟩ (.int .u8 (y3.toNat : Int))).drew) := Lib.hid (below_drewN (hbel4.out.setCell (p := ⟨D, 8 * k + 3, none⟩) (Nat.le_refl _) (.int .u8 (y3.toNat : Int))) 1)
      clear hset
      refine wp_region_still_tail 17 (by kernel_rfl) (by kernel_rfl) ?_
      simp only [List.take_succ_cons, List.take_zero, List.drop_succ_cons, List.drop_zero]
      repeat still_step
      refine wpStill_nil ?_
      change wpList _ _ _ _ _ wv4.drew
      go_wp2
      clear c1 c2 cG cd fd hqe hq32 hqs hqI hq0 hsq
      generalize (wv4.setCell ⟨D, 8 * k + 3, none⟩ (.int .u8 (y3.toNat : Int))).drew = wv5 at hblk5 hbel5
      -- the letter 2
      have c1 : wv5.cell? ⟨b, o + 5 * k + 1, none⟩ = some (.int .u8 (x1.toNat : Int)) := by rw [hbel5.out.cell (p := ⟨b, _, none⟩) hbD, Nat.add_assoc]; exact HR.out _ _ h1.out
      have cG : wv5.cell? ⟨g, 0, none⟩ = some (.string s) := (hbel5.out.cell (p := ⟨g, 0, none⟩) hgD).trans ((HG.out.cell 0).trans (encC_zero _ _ _))
      have cd : wv5.cell? ⟨D, 8 * k + 2, none⟩ = some (.int .u8 _) := (hblk5.out.cell _).trans (cellsF_at _ _ (by omega))
      have fd := hblk5.out.frozen (8 * k + 2)
      obtain ⟨q2, hq, hqe⟩ : ∃ q : Nat, q = x1.toNat / 2 % 32 ∧ bits .and .u8 ((x1.toNat : Int) / 2) 31 = (q : Int) := ⟨_, rfl, by simp (disch := omega) only [u8and31, u8wrap, u8or1, u8or2, u8or3, u8or4]; omega⟩
      have HQ2 := Lib.hid hq
      have hq32 : q2 < 32 := by omega
      have hqs : q2 < s.size := by omega
      have hqI : (q2 : Int) < 32 := by omega
      have hq0 : (0 : Int) ≤ q2 := by omega
      obtain ⟨y2, hy⟩ : ∃ y, a[q2]? = some y := ⟨_, List.getElem?_eq_getElem (by omega)⟩
      have hsq : s[q2] = y2 := str_at HS.out hqs hy
      have HY2 := Lib.hid hy
      clear hq hy
      have hset := hblk5.out.set_ (8 * k + 2) (.int .u8 (y2.toNat : Int))
      rw [cellsF_set] at hset
      have hblk6 : Hid (Blk (wv5.setCell ⟨D, 8 * k + 2, none⟩ (.int .u8 (y2.toNat : Int))).drew D 5 _) := Lib.hid hset
      have hbel6 : Hid (Below D w (wv5.setCell ⟨D, 8 * k + 2, none⟩ (.int .u8 (y2.toNat : Int))).drew) := Lib.hid (below_drewN (hbel5.out.setCell (p := ⟨D, 8 * k + 2, none⟩) (Nat.le_refl _) (.int .u8 (y2.toNat : Int))) 1)
      clear hset
      refine wp_region_still_tail 12 (by kernel_rfl) (by kernel_rfl) ?_
      simp only [List.take_succ_cons, List.take_zero, List.drop_succ_cons, List.drop_zero]
      repeat still_step
      refine wpStill_nil ?_
      change wpList _ _ _ _ _ wv5.drew
      go_wp2
      clear c1 cG cd fd hqe hq32 hqs hqI hq0 hsq
      generalize (wv5.setCell ⟨D, 8 * k + 2, none⟩ (.int .u8 (y2.toNat : Int))).drew = wv6 at hblk6 hbel6
      -- the letter 1
      have c0 : wv6.cell? ⟨b, o + 5 * k, none⟩ = some (.int .u8 (x0.toNat : Int)) := by rw [hbel6.out.cell (p := ⟨b, _, none⟩) hbD]; exact HR.out _ _ h0.out
      have c1 : wv6.cell? ⟨b, o + 5 * k + 1, none⟩ = some (.int .u8 (x1.toNat : Int)) := by rw [hbel6.out.cell (p := ⟨b, _, none⟩) hbD, Nat.add_assoc]; exact HR.out _ _ h1.out
      have cG : wv6.cell? ⟨g, 0, none⟩ = some (.string s) := (hbel6.out.cell (p := ⟨g, 0, none⟩) hgD).trans ((HG.out.cell 0).trans (encC_zero _ _ _))
      have cd : wv6.cell? ⟨D, 8 * k + 1, none⟩ = some (.int .u8 _) := (hblk6.out.cell _).trans (cellsF_at _ _ (by omega))
      have fd := hblk6.out.frozen (8 * k + 1)
      obtain ⟨q1, hq, hqe⟩ : ∃ q : Nat, q = x0.toNat % 8 * 4 + x1.toNat / 64 ∧ bits .and .u8 (bits .or .u8 ((x1.toNat : Int) / 64) (IntKind.u8.wrap ((x0.toNat : Int) * 4))) 31 = (q : Int) := ⟨_, rfl, by simp (disch := omega) only [u8and31, u8wrap, u8or1, u8or2, u8or3, u8or4]; omega⟩
      have HQ1 := Lib.hid hq
      have hq32 : q1 < 32 := by omega
      have hqs : q1 < s.size := by omega
      have hqI : (q1 : Int) < 32 := by omega
      have hq0 : (0 : Int) ≤ q1 := by omega
      obtain ⟨y1, hy⟩ : ∃ y, a[q1]? = some y := ⟨_, List.getElem?_eq_getElem (by omega)⟩
      have hsq : s[q1] = y1 := str_at HS.out hqs hy
      have HY1 := Lib.hid hy
      clear hq hy
      have hset := hblk6.out.set_ (8 * k + 1) (.int .u8 (y1.toNat : Int))
      rw [cellsF_set] at hset
      have hblk7 : Hid (Blk (wv6.setCell ⟨D, 8 * k + 1, none⟩ (.int .u8 (y1.toNat : Int))).drew D 5 _) := Lib.hid hset
      have hbel7 : Hid (Below D w (wv6.setCell ⟨D, 8 * k + 1, none⟩ (.int .u8 (y1.toNat : Int))).drew) := Lib.hid (below_drewN (hbel6.out.setCell (p := ⟨D, 8 * k + 1, none⟩) (Nat.le_refl _) (.int .u8 (y1.toNat : Int))) 1)
      clear hset
      refine wp_region_still_tail 17 (by kernel_rfl) (by kernel_rfl) ?_
      simp only [List.take_succ_cons, List.take_zero, List.drop_succ_cons, List.drop_zero]
      repeat still_step
      refine wpStill_nil ?_
      change wpList _ _ _ _ _ wv6.drew
      go_wp2
      clear c0 c1 cG cd fd hqe hq32 hqs hqI hq0 hsq
      generalize (wv6.setCell ⟨D, 8 * k + 1, none⟩ (.int .u8 (y1.toNat : Int))).drew = wv7 at hblk7 hbel7
      -- the letter 0
      have c0 : wv7.cell? ⟨b, o + 5 * k, none⟩ = some (.int .u8 (x0.toNat : Int)) := by rw [hbel7.out.cell (p := ⟨b, _, none⟩) hbD]; exact HR.out _ _ h0.out
      have cG : wv7.cell? ⟨g, 0, none⟩ = some (.string s) := (hbel7.out.cell (p := ⟨g, 0, none⟩) hgD).trans ((HG.out.cell 0).trans (encC_zero _ _ _))
      have cd : wv7.cell? ⟨D, 8 * k, none⟩ = some (.int .u8 _) := (hblk7.out.cell _).trans (cellsF_at _ _ (by omega))
      have fd := hblk7.out.frozen (8 * k)
      obtain ⟨q0, hq, hqe⟩ : ∃ q : Nat, q = x0.toNat / 8 ∧ (x0.toNat : Int) / 8 = (q : Int) := ⟨_, rfl, by omega⟩
      have HQ0 := Lib.hid hq
      have hq32 : q0 < 32 := by omega
      have hqs : q0 < s.size := by omega
      have hqI : (q0 : Int) < 32 := by omega
      have hq0 : (0 : Int) ≤ q0 := by omega
      obtain ⟨y0, hy⟩ : ∃ y, a[q0]? = some y := ⟨_, List.getElem?_eq_getElem (by omega)⟩
      have hsq : s[q0] = y0 := str_at HS.out hqs hy
      have HY0 := Lib.hid hy
      clear hq hy
      have hset := hblk7.out.set_ (8 * k) (.int .u8 (y0.toNat : Int))
      rw [cellsF_set] at hset
      have hblk8 : Hid (Blk (wv7.setCell ⟨D, 8 * k, none⟩ (.int .u8 (y0.toNat : Int))).drew D 5 _) := Lib.hid hset
      have hbel8 : Hid (Below D w (wv7.setCell ⟨D, 8 * k, none⟩ (.int .u8 (y0.toNat : Int))).drew) := Lib.hid (below_drewN (hbel7.out.setCell (p := ⟨D, 8 * k, none⟩) (Nat.le_refl _) (.int .u8 (y0.toNat : Int))) 1)
      clear hset
      refine wp_region_still_tail 11 (by kernel_rfl) (by kernel_rfl) ?_
      simp only [List.take_succ_cons, List.take_zero, List.drop_succ_cons, List.drop_zero]
      repeat still_step
      refine wpStill_nil ?_
      change wpList _ _ _ _ _ wv7.drew
      go_wp2
      clear c0 cG cd fd hqe hq32 hqs hqI hq0 hsq
      generalize (wv7.setCell ⟨D, 8 * k, none⟩ (.int .u8 (y0.toNat : Int))).drew = wv8 at hblk8 hbel8
      have HF : Hid (Blk wv8 D 5 (cellsF m (fun i => if i < 8 * (k + 1) then elF a l i else 0))) := by
        refine Lib.hid (Eq.mp (congrArg (fun cs => Blk wv8 D 5 cs) (cellsF_ext m _ (fun i _ => ?_))) hblk8.out)
        simp only [updF]
        exact upd8 (elF a l) k _ _ _ _ _ _ _ _ (elF_at a l k 0 q0 y0 (by omega) (by rw [drop5 h0.out h1.out h2.out h3.out h4.out]; simp only [List.map_cons, e32, List.cons_append, List.getElem?_cons_succ, List.getElem?_cons_zero, HQ0.out]) HY0.out) (elF_at a l k 1 q1 y1 (by omega) (by rw [drop5 h0.out h1.out h2.out h3.out h4.out]; simp only [List.map_cons, e32, List.cons_append, List.getElem?_cons_succ, List.getElem?_cons_zero, HQ1.out]) HY1.out) (elF_at a l k 2 q2 y2 (by omega) (by rw [drop5 h0.out h1.out h2.out h3.out h4.out]; simp only [List.map_cons, e32, List.cons_append, List.getElem?_cons_succ, List.getElem?_cons_zero, HQ2.out]) HY2.out) (elF_at a l k 3 q3 y3 (by omega) (by rw [drop5 h0.out h1.out h2.out h3.out h4.out]; simp only [List.map_cons, e32, List.cons_append, List.getElem?_cons_succ, List.getElem?_cons_zero, HQ3.out]) HY3.out) (elF_at a l k 4 q4 y4 (by omega) (by rw [drop5 h0.out h1.out h2.out h3.out h4.out]; simp only [List.map_cons, e32, List.cons_append, List.getElem?_cons_succ, List.getElem?_cons_zero, HQ4.out]) HY4.out) (elF_at a l k 5 q5 y5 (by omega) (by rw [drop5 h0.out h1.out h2.out h3.out h4.out]; simp only [List.map_cons, e32, List.cons_append, List.getElem?_cons_succ, List.getElem?_cons_zero, HQ5.out]) HY5.out) (elF_at a l k 6 q6 y6 (by omega) (by rw [drop5 h0.out h1.out h2.out h3.out h4.out]; simp only [List.map_cons, e32, List.cons_append, List.getElem?_cons_succ, List.getElem?_cons_zero, HQ6.out]) HY6.out) (elF_at a l k 7 q7 y7 (by omega) (by rw [drop5 h0.out h1.out h2.out h3.out h4.out]; simp only [List.map_cons, e32, List.cons_append, List.getElem?_cons_succ, List.getElem?_cons_zero, HQ7.out]) HY7.out) i
      obtain ⟨dO, hd, hd'⟩ : ∃ dO : Nat, (if cm - 8 * k = 8 then some (⟨D, 8 * k, none⟩ : Addr) else some ⟨D, 8 * k + 8, none⟩) = some ⟨D, dO, none⟩ ∧ (5 * (k + 1) < n → dO = 8 * (k + 1)) := by
        by_cases h : cm - 8 * k = 8
        · exact ⟨8 * k, by rw [if_pos h], by omega⟩
        · exact ⟨8 * k + 8, by rw [if_neg h], by omega⟩
      obtain ⟨sO, hs, hs'⟩ : ∃ sO : Nat, (if c - 5 * k = 5 then some (⟨b, o + 5 * k, none⟩ : Addr) else some ⟨b, o + 5 * k + 5, none⟩) = some ⟨b, sO, none⟩ ∧ (5 * (k + 1) < n → sO = o + 5 * (k + 1)) := by
        by_cases h : c - 5 * k = 5
        · exact ⟨o + 5 * k, by rw [if_pos h], by omega⟩
        · exact ⟨o + 5 * k + 5, by rw [if_neg h], by omega⟩
      have e1 : M - 8 = m - 8 * (k + 1) := by omega
      have e2 : cm - 8 * k - 8 = cm - 8 * (k + 1) := by omega
      have e3 : N - 5 = n - 5 * (k + 1) := by omega
      have e4 : c - 5 * k - 5 = c - 5 * (k + 1) := by omega
      rw [hd, hs, e1, e2, e3, e4]
      go_roundw
      case rel => exact ⟨k + 1, dO, sO, by omega, rfl, rfl, hd', hs', HF, hbel8⟩
      case measure => simp [slLen]; omega
    · have hN4 : N = 1 ∨ N = 2 ∨ N = 3 ∨ N = 4 := by omega
      rcases hN4 with rfl | rfl | rfl | rfl
      · -- 1 bytes at the end
        obtain ⟨x0, h0⟩ : ∃ x, Hid (l[5 * k]? = some x) := ⟨_, List.getElem?_eq_getElem (by omega)⟩
        have hx0 := x0.toNat_lt
        have hm8 : 8 * k + 2 = m := by omega
        generalize hM : m - 8 * k = M
        obtain rfl : M = 2 := by omega
        go_wp2
        -- the letter 1
        have c0 : wr.cell? ⟨b, o + 5 * k, none⟩ = some (.int .u8 (x0.toNat : Int)) := by rw [hbel.out.cell (p := ⟨b, _, none⟩) hbD]; exact HR.out _ _ h0.out
        have cG : wr.cell? ⟨g, 0, none⟩ = some (.string s) := (hbel.out.cell (p := ⟨g, 0, none⟩) hgD).trans ((HG.out.cell 0).trans (encC_zero _ _ _))
        have cd : wr.cell? ⟨D, 8 * k + 1, none⟩ = some (.int .u8 _) := (hblk.out.cell _).trans (cellsF_at _ _ (by omega))
        have fd := hblk.out.frozen (8 * k + 1)
        obtain ⟨q1, hq, hqe⟩ : ∃ q : Nat, q = x0.toNat % 8 * 4 ∧ bits .or .u8 (0) (bits .and .u8 (IntKind.u8.wrap ((x0.toNat : Int) * 4)) 31) = (q : Int) := ⟨_, rfl, by simp (disch := omega) only [u8and31, u8wrap, u8or1, u8or2, u8or3, u8or4]; omega⟩
        have HQ1 := Lib.hid hq
        have hq32 : q1 < 32 := by omega
        have hqs : q1 < s.size := by omega
        have hqI : (q1 : Int) < 32 := by omega
        have hq0 : (0 : Int) ≤ q1 := by omega
        obtain ⟨y1, hy⟩ : ∃ y, a[q1]? = some y := ⟨_, List.getElem?_eq_getElem (by omega)⟩
        have hsq : s[q1] = y1 := str_at HS.out hqs hy
        have HY1 := Lib.hid hy
        clear hq hy
        have hset := hblk.out.set_ (8 * k + 1) (.int .u8 (y1.toNat : Int))
        rw [cellsF_set] at hset
        have hblk1 : Hid (Blk (wr.setCell ⟨D, 8 * k + 1, none⟩ (.int .u8 (y1.toNat : Int))).drew D 5 _) := Lib.hid hset
        have hbel1 : Hid (Below D w (wr.setCell ⟨D, 8 * k + 1, none⟩ (.int .u8 (y1.toNat : Int))).drew) := Lib.hid (below_drewN (hbel.out.setCell (p := ⟨D, 8 * k + 1, none⟩) (Nat.le_refl _) (.int .u8 (y1.toNat : Int))) 1)
        clear hset
        refine wp_region_still_tail 14 (by kernel_rfl) (by kernel_rfl) ?_
        simp only [List.take_succ_cons, List.take_zero, List.drop_succ_cons, List.drop_zero]
        repeat still_step
        refine wpStill_nil ?_
        change wpList _ _ _ _ _ wr.drew
        go_wp2
        clear c0 cG cd fd hqe hq32 hqs hqI hq0 hsq
        generalize (wr.setCell ⟨D, 8 * k + 1, none⟩ (.int .u8 (y1.toNat : Int))).drew = wv1 at hblk1 hbel1
        -- the letter 0
        have c0 : wv1.cell? ⟨b, o + 5 * k, none⟩ = some (.int .u8 (x0.toNat : Int)) := by rw [hbel1.out.cell (p := ⟨b, _, none⟩) hbD]; exact HR.out _ _ h0.out
        have cG : wv1.cell? ⟨g, 0, none⟩ = some (.string s) := (hbel1.out.cell (p := ⟨g, 0, none⟩) hgD).trans ((HG.out.cell 0).trans (encC_zero _ _ _))
        have cP : wv1.cell? ⟨g, 257, none⟩ = some (.int .i32 (-1)) := (hbel1.out.cell (p := ⟨g, 257, none⟩) hgD).trans ((HG.out.cell 257).trans (encC_pad _ _ _))
        have cd : wv1.cell? ⟨D, 8 * k, none⟩ = some (.int .u8 _) := (hblk1.out.cell _).trans (cellsF_at _ _ (by omega))
        have fd := hblk1.out.frozen (8 * k)
        obtain ⟨q0, hq, hqe⟩ : ∃ q : Nat, q = x0.toNat / 8 ∧ (x0.toNat : Int) / 8 = (q : Int) := ⟨_, rfl, by omega⟩
        have HQ0 := Lib.hid hq
        have hq32 : q0 < 32 := by omega
        have hqs : q0 < s.size := by omega
        have hqI : (q0 : Int) < 32 := by omega
        have hq0 : (0 : Int) ≤ q0 := by omega
        obtain ⟨y0, hy⟩ : ∃ y, a[q0]? = some y := ⟨_, List.getElem?_eq_getElem (by omega)⟩
        have hsq : s[q0] = y0 := str_at HS.out hqs hy
        have HY0 := Lib.hid hy
        clear hq hy
        have hset := hblk1.out.set_ (8 * k) (.int .u8 (y0.toNat : Int))
        rw [cellsF_set] at hset
        have hblk2 : Hid (Blk (wv1.setCell ⟨D, 8 * k, none⟩ (.int .u8 (y0.toNat : Int))).drew D 5 _) := Lib.hid hset
        have hbel2 : Hid (Below D w (wv1.setCell ⟨D, 8 * k, none⟩ (.int .u8 (y0.toNat : Int))).drew) := Lib.hid (below_drewN (hbel1.out.setCell (p := ⟨D, 8 * k, none⟩) (Nat.le_refl _) (.int .u8 (y0.toNat : Int))) 1)
        clear hset
        refine wp_region_still_tail 11 (by kernel_rfl) (by kernel_rfl) ?_
        simp only [List.take_succ_cons, List.take_zero, List.drop_succ_cons, List.drop_zero]
        repeat still_step
        refine wpStill_nil ?_
        change wpList _ _ _ _ _ wv1.drew
        go_wp2
        go_end0
        refine ⟨rfl, ?_, hbel2.out⟩
        refine Eq.mp (congrArg (fun cs => Blk _ D 5 cs) (cellsF_ext m _ (fun i hi => ?_))) hblk2.out
        simp only [updF]
        exact upd2 (elF a l) k _ _ (elF_at a l k 0 q0 y0 (by omega) (by rw [drop1 h0.out (by omega)]; simp only [List.map_cons, List.map_nil, e32, List.getElem?_cons_succ, List.getElem?_cons_zero, HQ0.out]) HY0.out) (elF_at a l k 1 q1 y1 (by omega) (by rw [drop1 h0.out (by omega)]; simp only [List.map_cons, List.map_nil, e32, List.getElem?_cons_succ, List.getElem?_cons_zero, HQ1.out]) HY1.out) i (by omega)
      · -- 2 bytes at the end
        obtain ⟨x0, h0⟩ : ∃ x, Hid (l[5 * k]? = some x) := ⟨_, List.getElem?_eq_getElem (by omega)⟩
        obtain ⟨x1, h1⟩ : ∃ x, Hid (l[5 * k + 1]? = some x) := ⟨_, List.getElem?_eq_getElem (by omega)⟩
        have hx0 := x0.toNat_lt
        have hx1 := x1.toNat_lt
        have hm8 : 8 * k + 4 = m := by omega
        generalize hM : m - 8 * k = M
        obtain rfl : M = 4 := by omega
        go_wp2
        -- the letter 3
        have c1 : wr.cell? ⟨b, o + 5 * k + 1, none⟩ = some (.int .u8 (x1.toNat : Int)) := by rw [hbel.out.cell (p := ⟨b, _, none⟩) hbD, Nat.add_assoc]; exact HR.out _ _ h1.out
        have cG : wr.cell? ⟨g, 0, none⟩ = some (.string s) := (hbel.out.cell (p := ⟨g, 0, none⟩) hgD).trans ((HG.out.cell 0).trans (encC_zero _ _ _))
        have cd : wr.cell? ⟨D, 8 * k + 3, none⟩ = some (.int .u8 _) := (hblk.out.cell _).trans (cellsF_at _ _ (by omega))
        have fd := hblk.out.frozen (8 * k + 3)
        obtain ⟨q3, hq, hqe⟩ : ∃ q : Nat, q = x1.toNat % 2 * 16 ∧ bits .or .u8 (0) (bits .and .u8 (IntKind.u8.wrap ((x1.toNat : Int) * 16)) 31) = (q : Int) := ⟨_, rfl, by simp (disch := omega) only [u8and31, u8wrap, u8or1, u8or2, u8or3, u8or4]; omega⟩
        have HQ3 := Lib.hid hq
        have hq32 : q3 < 32 := by omega
        have hqs : q3 < s.size := by omega
        have hqI : (q3 : Int) < 32 := by omega
        have hq0 : (0 : Int) ≤ q3 := by omega
        obtain ⟨y3, hy⟩ : ∃ y, a[q3]? = some y := ⟨_, List.getElem?_eq_getElem (by omega)⟩
        have hsq : s[q3] = y3 := str_at HS.out hqs hy
        have HY3 := Lib.hid hy
        clear hq hy
        have hset := hblk.out.set_ (8 * k + 3) (.int .u8 (y3.toNat : Int))
        rw [cellsF_set] at hset
        have hblk1 : Hid (Blk (wr.setCell ⟨D, 8 * k + 3, none⟩ (.int .u8 (y3.toNat : Int))).drew D 5 _) := Lib.hid hset
        have hbel1 : Hid (Below D w (wr.setCell ⟨D, 8 * k + 3, none⟩ (.int .u8 (y3.toNat : Int))).drew) := Lib.hid (below_drewN (hbel.out.setCell (p := ⟨D, 8 * k + 3, none⟩) (Nat.le_refl _) (.int .u8 (y3.toNat : Int))) 1)
        clear hset
        refine wp_region_still_tail 14 (by kernel_rfl) (by kernel_rfl) ?_
        simp only [List.take_succ_cons, List.take_zero, List.drop_succ_cons, List.drop_zero]
        repeat still_step
        refine wpStill_nil ?_
        change wpList _ _ _ _ _ wr.drew
        go_wp2
        clear c1 cG cd fd hqe hq32 hqs hqI hq0 hsq
        generalize (wr.setCell ⟨D, 8 * k + 3, none⟩ (.int .u8 (y3.toNat : Int))).drew = wv1 at hblk1 hbel1
        -- the letter 2
        have c1 : wv1.cell? ⟨b, o + 5 * k + 1, none⟩ = some (.int .u8 (x1.toNat : Int)) := by rw [hbel1.out.cell (p := ⟨b, _, none⟩) hbD, Nat.add_assoc]; exact HR.out _ _ h1.out
        have cG : wv1.cell? ⟨g, 0, none⟩ = some (.string s) := (hbel1.out.cell (p := ⟨g, 0, none⟩) hgD).trans ((HG.out.cell 0).trans (encC_zero _ _ _))
        have cd : wv1.cell? ⟨D, 8 * k + 2, none⟩ = some (.int .u8 _) := (hblk1.out.cell _).trans (cellsF_at _ _ (by omega))
        have fd := hblk1.out.frozen (8 * k + 2)
        obtain ⟨q2, hq, hqe⟩ : ∃ q : Nat, q = x1.toNat / 2 % 32 ∧ bits .and .u8 ((x1.toNat : Int) / 2) 31 = (q : Int) := ⟨_, rfl, by simp (disch := omega) only [u8and31, u8wrap, u8or1, u8or2, u8or3, u8or4]; omega⟩
        have HQ2 := Lib.hid hq
        have hq32 : q2 < 32 := by omega
        have hqs : q2 < s.size := by omega
        have hqI : (q2 : Int) < 32 := by omega
        have hq0 : (0 : Int) ≤ q2 := by omega
        obtain ⟨y2, hy⟩ : ∃ y, a[q2]? = some y := ⟨_, List.getElem?_eq_getElem (by omega)⟩
        have hsq : s[q2] = y2 := str_at HS.out hqs hy
        have HY2 := Lib.hid hy
        clear hq hy
        have hset := hblk1.out.set_ (8 * k + 2) (.int .u8 (y2.toNat : Int))
        rw [cellsF_set] at hset
        have hblk2 : Hid (Blk (wv1.setCell ⟨D, 8 * k + 2, none⟩ (.int .u8 (y2.toNat : Int))).drew D 5 _) := Lib.hid hset
        have hbel2 : Hid (Below D w (wv1.setCell ⟨D, 8 * k + 2, none⟩ (.int .u8 (y2.toNat : Int))).drew) := Lib.hid (below_drewN (hbel1.out.setCell (p := ⟨D, 8 * k + 2, none⟩) (Nat.le_refl _) (.int .u8 (y2.toNat : Int))) 1)
        clear hset
        refine wp_region_still_tail 12 (by kernel_rfl) (by kernel_rfl) ?_
        simp only [List.take_succ_cons, List.take_zero, List.drop_succ_cons, List.drop_zero]
        repeat still_step
        refine wpStill_nil ?_
        change wpList _ _ _ _ _ wv1.drew
        go_wp2
        clear c1 cG cd fd hqe hq32 hqs hqI hq0 hsq
        generalize (wv1.setCell ⟨D, 8 * k + 2, none⟩ (.int .u8 (y2.toNat : Int))).drew = wv2 at hblk2 hbel2
        -- the letter 1
        have c0 : wv2.cell? ⟨b, o + 5 * k, none⟩ = some (.int .u8 (x0.toNat : Int)) := by rw [hbel2.out.cell (p := ⟨b, _, none⟩) hbD]; exact HR.out _ _ h0.out
        have cG : wv2.cell? ⟨g, 0, none⟩ = some (.string s) := (hbel2.out.cell (p := ⟨g, 0, none⟩) hgD).trans ((HG.out.cell 0).trans (encC_zero _ _ _))
        have cd : wv2.cell? ⟨D, 8 * k + 1, none⟩ = some (.int .u8 _) := (hblk2.out.cell _).trans (cellsF_at _ _ (by omega))
        have fd := hblk2.out.frozen (8 * k + 1)
        obtain ⟨q1, hq, hqe⟩ : ∃ q : Nat, q = x0.toNat % 8 * 4 + x1.toNat / 64 ∧ bits .or .u8 ((x1.toNat : Int) / 64 % 32) (bits .and .u8 (IntKind.u8.wrap ((x0.toNat : Int) * 4)) 31) = (q : Int) := ⟨_, rfl, by simp (disch := omega) only [u8and31, u8wrap, u8or1, u8or2, u8or3, u8or4]; omega⟩
        have HQ1 := Lib.hid hq
        have hq32 : q1 < 32 := by omega
        have hqs : q1 < s.size := by omega
        have hqI : (q1 : Int) < 32 := by omega
        have hq0 : (0 : Int) ≤ q1 := by omega
        obtain ⟨y1, hy⟩ : ∃ y, a[q1]? = some y := ⟨_, List.getElem?_eq_getElem (by omega)⟩
        have hsq : s[q1] = y1 := str_at HS.out hqs hy
        have HY1 := Lib.hid hy
        clear hq hy
        have hset := hblk2.out.set_ (8 * k + 1) (.int .u8 (y1.toNat : Int))
        rw [cellsF_set] at hset
        have hblk3 : Hid (Blk (wv2.setCell ⟨D, 8 * k + 1, none⟩ (.int .u8 (y1.toNat : Int))).drew D 5 _) := Lib.hid hset
        have hbel3 : Hid (Below D w (wv2.setCell ⟨D, 8 * k + 1, none⟩ (.int .u8 (y1.toNat : Int))).drew) := Lib.hid (below_drewN (hbel2.out.setCell (p := ⟨D, 8 * k + 1, none⟩) (Nat.le_refl _) (.int .u8 (y1.toNat : Int))) 1)
        clear hset
        refine wp_region_still_tail 14 (by kernel_rfl) (by kernel_rfl) ?_
        simp only [List.take_succ_cons, List.take_zero, List.drop_succ_cons, List.drop_zero]
        repeat still_step
        refine wpStill_nil ?_
        change wpList _ _ _ _ _ wv2.drew
        go_wp2
        clear c0 cG cd fd hqe hq32 hqs hqI hq0 hsq
        generalize (wv2.setCell ⟨D, 8 * k + 1, none⟩ (.int .u8 (y1.toNat : Int))).drew = wv3 at hblk3 hbel3
        -- the letter 0
        have c0 : wv3.cell? ⟨b, o + 5 * k, none⟩ = some (.int .u8 (x0.toNat : Int)) := by rw [hbel3.out.cell (p := ⟨b, _, none⟩) hbD]; exact HR.out _ _ h0.out
        have cG : wv3.cell? ⟨g, 0, none⟩ = some (.string s) := (hbel3.out.cell (p := ⟨g, 0, none⟩) hgD).trans ((HG.out.cell 0).trans (encC_zero _ _ _))
        have cP : wv3.cell? ⟨g, 257, none⟩ = some (.int .i32 (-1)) := (hbel3.out.cell (p := ⟨g, 257, none⟩) hgD).trans ((HG.out.cell 257).trans (encC_pad _ _ _))
        have cd : wv3.cell? ⟨D, 8 * k, none⟩ = some (.int .u8 _) := (hblk3.out.cell _).trans (cellsF_at _ _ (by omega))
        have fd := hblk3.out.frozen (8 * k)
        obtain ⟨q0, hq, hqe⟩ : ∃ q : Nat, q = x0.toNat / 8 ∧ (x0.toNat : Int) / 8 = (q : Int) := ⟨_, rfl, by omega⟩
        have HQ0 := Lib.hid hq
        have hq32 : q0 < 32 := by omega
        have hqs : q0 < s.size := by omega
        have hqI : (q0 : Int) < 32 := by omega
        have hq0 : (0 : Int) ≤ q0 := by omega
        obtain ⟨y0, hy⟩ : ∃ y, a[q0]? = some y := ⟨_, List.getElem?_eq_getElem (by omega)⟩
        have hsq : s[q0] = y0 := str_at HS.out hqs hy
        have HY0 := Lib.hid hy
        clear hq hy
        have hset := hblk3.out.set_ (8 * k) (.int .u8 (y0.toNat : Int))
        rw [cellsF_set] at hset
        have hblk4 : Hid (Blk (wv3.setCell ⟨D, 8 * k, none⟩ (.int .u8 (y0.toNat : Int))).drew D 5 _) := Lib.hid hset
        have hbel4 : Hid (Below D w (wv3.setCell ⟨D, 8 * k, none⟩ (.int .u8 (y0.toNat : Int))).drew) := Lib.hid (below_drewN (hbel3.out.setCell (p := ⟨D, 8 * k, none⟩) (Nat.le_refl _) (.int .u8 (y0.toNat : Int))) 1)
        clear hset
        refine wp_region_still_tail 11 (by kernel_rfl) (by kernel_rfl) ?_
        simp only [List.take_succ_cons, List.take_zero, List.drop_succ_cons, List.drop_zero]
        repeat still_step
        refine wpStill_nil ?_
        change wpList _ _ _ _ _ wv3.drew
        go_wp2
        go_end0
        refine ⟨rfl, ?_, hbel4.out⟩
        refine Eq.mp (congrArg (fun cs => Blk _ D 5 cs) (cellsF_ext m _ (fun i hi => ?_))) hblk4.out
        simp only [updF]
        exact upd4 (elF a l) k _ _ _ _ (elF_at a l k 0 q0 y0 (by omega) (by rw [drop2 h0.out h1.out (by omega)]; simp only [List.map_cons, List.map_nil, e32, List.getElem?_cons_succ, List.getElem?_cons_zero, HQ0.out]) HY0.out) (elF_at a l k 1 q1 y1 (by omega) (by rw [drop2 h0.out h1.out (by omega)]; simp only [List.map_cons, List.map_nil, e32, List.getElem?_cons_succ, List.getElem?_cons_zero, HQ1.out]) HY1.out) (elF_at a l k 2 q2 y2 (by omega) (by rw [drop2 h0.out h1.out (by omega)]; simp only [List.map_cons, List.map_nil, e32, List.getElem?_cons_succ, List.getElem?_cons_zero, HQ2.out]) HY2.out) (elF_at a l k 3 q3 y3 (by omega) (by rw [drop2 h0.out h1.out (by omega)]; simp only [List.map_cons, List.map_nil, e32, List.getElem?_cons_succ, List.getElem?_cons_zero, HQ3.out]) HY3.out) i (by omega)
      · -- 3 bytes at the end
        obtain ⟨x0, h0⟩ : ∃ x, Hid (l[5 * k]? = some x) := ⟨_, List.getElem?_eq_getElem (by omega)⟩
        obtain ⟨x1, h1⟩ : ∃ x, Hid (l[5 * k + 1]? = some x) := ⟨_, List.getElem?_eq_getElem (by omega)⟩
        obtain ⟨x2, h2⟩ : ∃ x, Hid (l[5 * k + 2]? = some x) := ⟨_, List.getElem?_eq_getElem (by omega)⟩
        have hx0 := x0.toNat_lt
        have hx1 := x1.toNat_lt
        have hx2 := x2.toNat_lt
        have hm8 : 8 * k + 5 = m := by omega
        generalize hM : m - 8 * k = M
        obtain rfl : M = 5 := by omega
        go_wp2
        -- the letter 4
        have c2 : wr.cell? ⟨b, o + 5 * k + 2, none⟩ = some (.int .u8 (x2.toNat : Int)) := by rw [hbel.out.cell (p := ⟨b, _, none⟩) hbD, Nat.add_assoc]; exact HR.out _ _ h2.out
        have cG : wr.cell? ⟨g, 0, none⟩ = some (.string s) := (hbel.out.cell (p := ⟨g, 0, none⟩) hgD).trans ((HG.out.cell 0).trans (encC_zero _ _ _))
        have cd : wr.cell? ⟨D, 8 * k + 4, none⟩ = some (.int .u8 _) := (hblk.out.cell _).trans (cellsF_at _ _ (by omega))
        have fd := hblk.out.frozen (8 * k + 4)
        obtain ⟨q4, hq, hqe⟩ : ∃ q : Nat, q = x2.toNat % 16 * 2 ∧ bits .or .u8 (0) (bits .and .u8 (IntKind.u8.wrap ((x2.toNat : Int) * 2)) 31) = (q : Int) := ⟨_, rfl, by simp (disch := omega) only [u8and31, u8wrap, u8or1, u8or2, u8or3, u8or4]; omega⟩
        have HQ4 := Lib.hid hq
        have hq32 : q4 < 32 := by omega
        have hqs : q4 < s.size := by omega
        have hqI : (q4 : Int) < 32 := by omega
        have hq0 : (0 : Int) ≤ q4 := by omega
        obtain ⟨y4, hy⟩ : ∃ y, a[q4]? = some y := ⟨_, List.getElem?_eq_getElem (by omega)⟩
        have hsq : s[q4] = y4 := str_at HS.out hqs hy
        have HY4 := Lib.hid hy
        clear hq hy
        have hset := hblk.out.set_ (8 * k + 4) (.int .u8 (y4.toNat : Int))
        rw [cellsF_set] at hset
        have hblk1 : Hid (Blk (wr.setCell ⟨D, 8 * k + 4, none⟩ (.int .u8 (y4.toNat : Int))).drew D 5 _) := Lib.hid hset
        have hbel1 : Hid (Below D w (wr.setCell ⟨D, 8 * k + 4, none⟩ (.int .u8 (y4.toNat : Int))).drew) := Lib.hid (below_drewN (hbel.out.setCell (p := ⟨D, 8 * k + 4, none⟩) (Nat.le_refl _) (.int .u8 (y4.toNat : Int))) 1)
        clear hset
        refine wp_region_still_tail 14 (by kernel_rfl) (by kernel_rfl) ?_
        simp only [List.take_succ_cons, List.take_zero, List.drop_succ_cons, List.drop_zero]
        repeat still_step
        refine wpStill_nil ?_
        change wpList _ _ _ _ _ wr.drew
        go_wp2
        clear c2 cG cd fd hqe hq32 hqs hqI hq0 hsq
        generalize (wr.setCell ⟨D, 8 * k + 4, none⟩ (.int .u8 (y4.toNat : Int))).drew = wv1 at hblk1 hbel1
        -- the letter 3
        have c1 : wv1.cell? ⟨b, o + 5 * k + 1, none⟩ = some (.int .u8 (x1.toNat : Int)) := by rw [hbel1.out.cell (p := ⟨b, _, none⟩) hbD, Nat.add_assoc]; exact HR.out _ _ h1.out
        have cG : wv1.cell? ⟨g, 0, none⟩ = some (.string s) := (hbel1.out.cell (p := ⟨g, 0, none⟩) hgD).trans ((HG.out.cell 0).trans (encC_zero _ _ _))
        have cd : wv1.cell? ⟨D, 8 * k + 3, none⟩ = some (.int .u8 _) := (hblk1.out.cell _).trans (cellsF_at _ _ (by omega))
        have fd := hblk1.out.frozen (8 * k + 3)
        obtain ⟨q3, hq, hqe⟩ : ∃ q : Nat, q = x1.toNat % 2 * 16 + x2.toNat / 16 ∧ bits .or .u8 ((x2.toNat : Int) / 16 % 32) (bits .and .u8 (IntKind.u8.wrap ((x1.toNat : Int) * 16)) 31) = (q : Int) := ⟨_, rfl, by simp (disch := omega) only [u8and31, u8wrap, u8or1, u8or2, u8or3, u8or4]; omega⟩
        have HQ3 := Lib.hid hq
        have hq32 : q3 < 32 := by omega
        have hqs : q3 < s.size := by omega
        have hqI : (q3 : Int) < 32 := by omega
        have hq0 : (0 : Int) ≤ q3 := by omega
        obtain ⟨y3, hy⟩ : ∃ y, a[q3]? = some y := ⟨_, List.getElem?_eq_getElem (by omega)⟩
        have hsq : s[q3] = y3 := str_at HS.out hqs hy
        have HY3 := Lib.hid hy
        clear hq hy
        have hset := hblk1.out.set_ (8 * k + 3) (.int .u8 (y3.toNat : Int))
        rw [cellsF_set] at hset
        have hblk2 : Hid (Blk (wv1.setCell ⟨D, 8 * k + 3, none⟩ (.int .u8 (y3.toNat : Int))).drew D 5 _) := Lib.hid hset
        have hbel2 : Hid (Below D w (wv1.setCell ⟨D, 8 * k + 3, none⟩ (.int .u8 (y3.toNat : Int))).drew) := Lib.hid (below_drewN (hbel1.out.setCell (p := ⟨D, 8 * k + 3, none⟩) (Nat.le_refl _) (.int .u8 (y3.toNat : Int))) 1)
        clear hset
        refine wp_region_still_tail 14 (by kernel_rfl) (by kernel_rfl) ?_
        simp only [List.take_succ_cons, List.take_zero, List.drop_succ_cons, List.drop_zero]
        repeat still_step
        refine wpStill_nil ?_
        change wpList _ _ _ _ _ wv1.drew
        go_wp2
        clear c1 cG cd fd hqe hq32 hqs hqI hq0 hsq
        generalize (wv1.setCell ⟨D, 8 * k + 3, none⟩ (.int .u8 (y3.toNat : Int))).drew = wv2 at hblk2 hbel2
        -- the letter 2
        have c1 : wv2.cell? ⟨b, o + 5 * k + 1, none⟩ = some (.int .u8 (x1.toNat : Int)) := by rw [hbel2.out.cell (p := ⟨b, _, none⟩) hbD, Nat.add_assoc]; exact HR.out _ _ h1.out
        have cG : wv2.cell? ⟨g, 0, none⟩ = some (.string s) := (hbel2.out.cell (p := ⟨g, 0, none⟩) hgD).trans ((HG.out.cell 0).trans (encC_zero _ _ _))
        have cd : wv2.cell? ⟨D, 8 * k + 2, none⟩ = some (.int .u8 _) := (hblk2.out.cell _).trans (cellsF_at _ _ (by omega))
        have fd := hblk2.out.frozen (8 * k + 2)
        obtain ⟨q2, hq, hqe⟩ : ∃ q : Nat, q = x1.toNat / 2 % 32 ∧ bits .and .u8 ((x1.toNat : Int) / 2) 31 = (q : Int) := ⟨_, rfl, by simp (disch := omega) only [u8and31, u8wrap, u8or1, u8or2, u8or3, u8or4]; omega⟩
        have HQ2 := Lib.hid hq
        have hq32 : q2 < 32 := by omega
        have hqs : q2 < s.size := by omega
        have hqI : (q2 : Int) < 32 := by omega
        have hq0 : (0 : Int) ≤ q2 := by omega
        obtain ⟨y2, hy⟩ : ∃ y, a[q2]? = some y := ⟨_, List.getElem?_eq_getElem (by omega)⟩
        have hsq : s[q2] = y2 := str_at HS.out hqs hy
        have HY2 := Lib.hid hy
        clear hq hy
        have hset := hblk2.out.set_ (8 * k + 2) (.int .u8 (y2.toNat : Int))
        rw [cellsF_set] at hset
        have hblk3 : Hid (Blk (wv2.setCell ⟨D, 8 * k + 2, none⟩ (.int .u8 (y2.toNat : Int))).drew D 5 _) := Lib.hid hset
        have hbel3 : Hid (Below D w (wv2.setCell ⟨D, 8 * k + 2, none⟩ (.int .u8 (y2.toNat : Int))).drew) := Lib.hid (below_drewN (hbel2.out.setCell (p := ⟨D, 8 * k + 2, none⟩) (Nat.le_refl _) (.int .u8 (y2.toNat : Int))) 1)
        clear hset
        refine wp_region_still_tail 12 (by kernel_rfl) (by kernel_rfl) ?_
        simp only [List.take_succ_cons, List.take_zero, List.drop_succ_cons, List.drop_zero]
        repeat still_step
        refine wpStill_nil ?_
        change wpList _ _ _ _ _ wv2.drew
        go_wp2
        clear c1 cG cd fd hqe hq32 hqs hqI hq0 hsq
        generalize (wv2.setCell ⟨D, 8 * k + 2, none⟩ (.int .u8 (y2.toNat : Int))).drew = wv3 at hblk3 hbel3
        -- the letter 1
        have c0 : wv3.cell? ⟨b, o + 5 * k, none⟩ = some (.int .u8 (x0.toNat : Int)) := by rw [hbel3.out.cell (p := ⟨b, _, none⟩) hbD]; exact HR.out _ _ h0.out
        have cG : wv3.cell? ⟨g, 0, none⟩ = some (.string s) := (hbel3.out.cell (p := ⟨g, 0, none⟩) hgD).trans ((HG.out.cell 0).trans (encC_zero _ _ _))
        have cd : wv3.cell? ⟨D, 8 * k + 1, none⟩ = some (.int .u8 _) := (hblk3.out.cell _).trans (cellsF_at _ _ (by omega))
        have fd := hblk3.out.frozen (8 * k + 1)
        obtain ⟨q1, hq, hqe⟩ : ∃ q : Nat, q = x0.toNat % 8 * 4 + x1.toNat / 64 ∧ bits .or .u8 ((x1.toNat : Int) / 64 % 32) (bits .and .u8 (IntKind.u8.wrap ((x0.toNat : Int) * 4)) 31) = (q : Int) := ⟨_, rfl, by simp (disch := omega) only [u8and31, u8wrap, u8or1, u8or2, u8or3, u8or4]; omega⟩
        have HQ1 := Lib.hid hq
        have hq32 : q1 < 32 := by omega
        have hqs : q1 < s.size := by omega
        have hqI : (q1 : Int) < 32 := by omega
        have hq0 : (0 : Int) ≤ q1 := by omega
        obtain ⟨y1, hy⟩ : ∃ y, a[q1]? = some y := ⟨_, List.getElem?_eq_getElem (by omega)⟩
        have hsq : s[q1] = y1 := str_at HS.out hqs hy
        have HY1 := Lib.hid hy
        clear hq hy
        have hset := hblk3.out.set_ (8 * k + 1) (.int .u8 (y1.toNat : Int))
        rw [cellsF_set] at hset
        have hblk4 : Hid (Blk (wv3.setCell ⟨D, 8 * k + 1, none⟩ (.int .u8 (y1.toNat : Int))).drew D 5 _) := Lib.hid hset
        have hbel4 : Hid (Below D w (wv3.setCell ⟨D, 8 * k + 1, none⟩ (.int .u8 (y1.toNat : Int))).drew) := Lib.hid (below_drewN (hbel3.out.setCell (p := ⟨D, 8 * k + 1, none⟩) (Nat.le_refl _) (.int .u8 (y1.toNat : Int))) 1)
        clear hset
        refine wp_region_still_tail 14 (by kernel_rfl) (by kernel_rfl) ?_
        simp only [List.take_succ_cons, List.take_zero, List.drop_succ_cons, List.drop_zero]
        repeat still_step
        refine wpStill_nil ?_
        change wpList _ _ _ _ _ wv3.drew
        go_wp2
        clear c0 cG cd fd hqe hq32 hqs hqI hq0 hsq
        generalize (wv3.setCell ⟨D, 8 * k + 1, none⟩ (.int .u8 (y1.toNat : Int))).drew = wv4 at hblk4 hbel4
        -- the letter 0
        have c0 : wv4.cell? ⟨b, o + 5 * k, none⟩ = some (.int .u8 (x0.toNat : Int)) := by rw [hbel4.out.cell (p := ⟨b, _, none⟩) hbD]; exact HR.out _ _ h0.out
        have cG : wv4.cell? ⟨g, 0, none⟩ = some (.string s) := (hbel4.out.cell (p := ⟨g, 0, none⟩) hgD).trans ((HG.out.cell 0).trans (encC_zero _ _ _))
        have cP : wv4.cell? ⟨g, 257, none⟩ = some (.int .i32 (-1)) := (hbel4.out.cell (p := ⟨g, 257, none⟩) hgD).trans ((HG.out.cell 257).trans (encC_pad _ _ _))
        have cd : wv4.cell? ⟨D, 8 * k, none⟩ = some (.int .u8 _) := (hblk4.out.cell _).trans (cellsF_at _ _ (by omega))
        have fd := hblk4.out.frozen (8 * k)
        obtain ⟨q0, hq, hqe⟩ : ∃ q : Nat, q = x0.toNat / 8 ∧ (x0.toNat : Int) / 8 = (q : Int) := ⟨_, rfl, by omega⟩
        have HQ0 := Lib.hid hq
        have hq32 : q0 < 32 := by omega
        have hqs : q0 < s.size := by omega
        have hqI : (q0 : Int) < 32 := by omega
        have hq0 : (0 : Int) ≤ q0 := by omega
        obtain ⟨y0, hy⟩ : ∃ y, a[q0]? = some y := ⟨_, List.getElem?_eq_getElem (by omega)⟩
        have hsq : s[q0] = y0 := str_at HS.out hqs hy
        have HY0 := Lib.hid hy
        clear hq hy
        have hset := hblk4.out.set_ (8 * k) (.int .u8 (y0.toNat : Int))
        rw [cellsF_set] at hset
        have hblk5 : Hid (Blk (wv4.setCell ⟨D, 8 * k, none⟩ (.int .u8 (y0.toNat : Int))).drew D 5 _) := Lib.hid hset
        have hbel5 : Hid (Below D w (wv4.setCell ⟨D, 8 * k, none⟩ (.int .u8 (y0.toNat : Int))).drew) := Lib.hid (below_drewN (hbel4.out.setCell (p := ⟨D, 8 * k, none⟩) (Nat.le_refl _) (.int .u8 (y0.toNat : Int))) 1)
        clear hset
        refine wp_region_still_tail 11 (by kernel_rfl) (by kernel_rfl) ?_
        simp only [List.take_succ_cons, List.take_zero, List.drop_succ_cons, List.drop_zero]
        repeat still_step
        refine wpStill_nil ?_
        change wpList _ _ _ _ _ wv4.drew
        go_wp2
        go_end0
        refine ⟨rfl, ?_, hbel5.out⟩
        refine Eq.mp (congrArg (fun cs => Blk _ D 5 cs) (cellsF_ext m _ (fun i hi => ?_))) hblk5.out
        simp only [updF]
        exact upd5 (elF a l) k _ _ _ _ _ (elF_at a l k 0 q0 y0 (by omega) (by rw [drop3 h0.out h1.out h2.out (by omega)]; simp only [List.map_cons, List.map_nil, e32, List.getElem?_cons_succ, List.getElem?_cons_zero, HQ0.out]) HY0.out) (elF_at a l k 1 q1 y1 (by omega) (by rw [drop3 h0.out h1.out h2.out (by omega)]; simp only [List.map_cons, List.map_nil, e32, List.getElem?_cons_succ, List.getElem?_cons_zero, HQ1.out]) HY1.out) (elF_at a l k 2 q2 y2 (by omega) (by rw [drop3 h0.out h1.out h2.out (by omega)]; simp only [List.map_cons, List.map_nil, e32, List.getElem?_cons_succ, List.getElem?_cons_zero, HQ2.out]) HY2.out) (elF_at a l k 3 q3 y3 (by omega) (by rw [drop3 h0.out h1.out h2.out (by omega)]; simp only [List.map_cons, List.map_nil, e32, List.getElem?_cons_succ, List.getElem?_cons_zero, HQ3.out]) HY3.out) (elF_at a l k 4 q4 y4 (by omega) (by rw [drop3 h0.out h1.out h2.out (by omega)]; simp only [List.map_cons, List.map_nil, e32, List.getElem?_cons_succ, List.getElem?_cons_zero, HQ4.out]) HY4.out) i (by omega)
      · -- 4 bytes at the end
        obtain ⟨x0, h0⟩ : ∃ x, Hid (l[5 * k]? = some x) := ⟨_, List.getElem?_eq_getElem (by omega)⟩
        obtain ⟨x1, h1⟩ : ∃ x, Hid (l[5 * k + 1]? = some x) := ⟨_, List.getElem?_eq_getElem (by omega)⟩
        obtain ⟨x2, h2⟩ : ∃ x, Hid (l[5 * k + 2]? = some x) := ⟨_, List.getElem?_eq_getElem (by omega)⟩
        obtain ⟨x3, h3⟩ : ∃ x, Hid (l[5 * k + 3]? = some x) := ⟨_, List.getElem?_eq_getElem (by omega)⟩
        have hx0 := x0.toNat_lt
        have hx1 := x1.toNat_lt
        have hx2 := x2.toNat_lt
        have hx3 := x3.toNat_lt
        have hm8 : 8 * k + 7 = m := by omega
        generalize hM : m - 8 * k = M
        obtain rfl : M = 7 := by omega
        go_wp2
        -- the letter 6
        have c3 : wr.cell? ⟨b, o + 5 * k + 3, none⟩ = some (.int .u8 (x3.toNat : Int)) := by rw [hbel.out.cell (p := ⟨b, _, none⟩) hbD, Nat.add_assoc]; exact HR.out _ _ h3.out
        have cG : wr.cell? ⟨g, 0, none⟩ = some (.string s) := (hbel.out.cell (p := ⟨g, 0, none⟩) hgD).trans ((HG.out.cell 0).trans (encC_zero _ _ _))
        have cd : wr.cell? ⟨D, 8 * k + 6, none⟩ = some (.int .u8 _) := (hblk.out.cell _).trans (cellsF_at _ _ (by omega))
        have fd := hblk.out.frozen (8 * k + 6)
        obtain ⟨q6, hq, hqe⟩ : ∃ q : Nat, q = x3.toNat % 4 * 8 ∧ bits .and .u8 (IntKind.u8.wrap ((x3.toNat : Int) * 8)) 31 = (q : Int) := ⟨_, rfl, by simp (disch := omega) only [u8and31, u8wrap, u8or1, u8or2, u8or3, u8or4]; omega⟩
        have HQ6 := Lib.hid hq
        have hq32 : q6 < 32 := by omega
        have hqs : q6 < s.size := by omega
        have hqI : (q6 : Int) < 32 := by omega
        have hq0 : (0 : Int) ≤ q6 := by omega
        obtain ⟨y6, hy⟩ : ∃ y, a[q6]? = some y := ⟨_, List.getElem?_eq_getElem (by omega)⟩
        have hsq : s[q6] = y6 := str_at HS.out hqs hy
        have HY6 := Lib.hid hy
        clear hq hy
        have hset := hblk.out.set_ (8 * k + 6) (.int .u8 (y6.toNat : Int))
        rw [cellsF_set] at hset
        have hblk1 : Hid (Blk (wr.setCell ⟨D, 8 * k + 6, none⟩ (.int .u8 (y6.toNat : Int))).drew D 5 _) := Lib.hid hset
        have hbel1 : Hid (Below D w (wr.setCell ⟨D, 8 * k + 6, none⟩ (.int .u8 (y6.toNat : Int))).drew) := Lib.hid (below_drewN (hbel.out.setCell (p := ⟨D, 8 * k + 6, none⟩) (Nat.le_refl _) (.int .u8 (y6.toNat : Int))) 1)
        clear hset
        refine wp_region_still_tail 12 (by kernel_rfl) (by kernel_rfl) ?_
        simp only [List.take_succ_cons, List.take_zero, List.drop_succ_cons, List.drop_zero]
        repeat still_step
        refine wpStill_nil ?_
        change wpList _ _ _ _ _ wr.drew
        go_wp2
        clear c3 cG cd fd hqe hq32 hqs hqI hq0 hsq
        generalize (wr.setCell ⟨D, 8 * k + 6, none⟩ (.int .u8 (y6.toNat : Int))).drew = wv1 at hblk1 hbel1
        -- the letter 5
        have c3 : wv1.cell? ⟨b, o + 5 * k + 3, none⟩ = some (.int .u8 (x3.toNat : Int)) := by rw [hbel1.out.cell (p := ⟨b, _, none⟩) hbD, Nat.add_assoc]; exact HR.out _ _ h3.out
        have cG : wv1.cell? ⟨g, 0, none⟩ = some (.string s) := (hbel1.out.cell (p := ⟨g, 0, none⟩) hgD).trans ((HG.out.cell 0).trans (encC_zero _ _ _))
        have cd : wv1.cell? ⟨D, 8 * k + 5, none⟩ = some (.int .u8 _) := (hblk1.out.cell _).trans (cellsF_at _ _ (by omega))
        have fd := hblk1.out.frozen (8 * k + 5)
        obtain ⟨q5, hq, hqe⟩ : ∃ q : Nat, q = x3.toNat / 4 % 32 ∧ bits .and .u8 ((x3.toNat : Int) / 4) 31 = (q : Int) := ⟨_, rfl, by simp (disch := omega) only [u8and31, u8wrap, u8or1, u8or2, u8or3, u8or4]; omega⟩
        have HQ5 := Lib.hid hq
        have hq32 : q5 < 32 := by omega
        have hqs : q5 < s.size := by omega
        have hqI : (q5 : Int) < 32 := by omega
        have hq0 : (0 : Int) ≤ q5 := by omega
        obtain ⟨y5, hy⟩ : ∃ y, a[q5]? = some y := ⟨_, List.getElem?_eq_getElem (by omega)⟩
        have hsq : s[q5] = y5 := str_at HS.out hqs hy
        have HY5 := Lib.hid hy
        clear hq hy
        have hset := hblk1.out.set_ (8 * k + 5) (.int .u8 (y5.toNat : Int))
        rw [cellsF_set] at hset
        have hblk2 : Hid (Blk (wv1.setCell ⟨D, 8 * k + 5, none⟩ (.int .u8 (y5.toNat : Int))).drew D 5 _) := Lib.hid hset
        have hbel2 : Hid (Below D w (wv1.setCell ⟨D, 8 * k + 5, none⟩ (.int .u8 (y5.toNat : Int))).drew) := Lib.hid (below_drewN (hbel1.out.setCell (p := ⟨D, 8 * k + 5, none⟩) (Nat.le_refl _) (.int .u8 (y5.toNat : Int))) 1)
        clear hset
        refine wp_region_still_tail 12 (by kernel_rfl) (by kernel_rfl) ?_
        simp only [List.take_succ_cons, List.take_zero, List.drop_succ_cons, List.drop_zero]
        repeat still_step
        refine wpStill_nil ?_
        change wpList _ _ _ _ _ wv1.drew
        go_wp2
        clear c3 cG cd fd hqe hq32 hqs hqI hq0 hsq
        generalize (wv1.setCell ⟨D, 8 * k + 5, none⟩ (.int .u8 (y5.toNat : Int))).drew = wv2 at hblk2 hbel2
        -- the letter 4
        have c2 : wv2.cell? ⟨b, o + 5 * k + 2, none⟩ = some (.int .u8 (x2.toNat : Int)) := by rw [hbel2.out.cell (p := ⟨b, _, none⟩) hbD, Nat.add_assoc]; exact HR.out _ _ h2.out
        have cG : wv2.cell? ⟨g, 0, none⟩ = some (.string s) := (hbel2.out.cell (p := ⟨g, 0, none⟩) hgD).trans ((HG.out.cell 0).trans (encC_zero _ _ _))
        have cd : wv2.cell? ⟨D, 8 * k + 4, none⟩ = some (.int .u8 _) := (hblk2.out.cell _).trans (cellsF_at _ _ (by omega))
        have fd := hblk2.out.frozen (8 * k + 4)
        obtain ⟨q4, hq, hqe⟩ : ∃ q : Nat, q = x2.toNat % 16 * 2 + x3.toNat / 128 ∧ bits .or .u8 ((x3.toNat : Int) / 128) (bits .and .u8 (IntKind.u8.wrap ((x2.toNat : Int) * 2)) 31) = (q : Int) := ⟨_, rfl, by simp (disch := omega) only [u8and31, u8wrap, u8or1, u8or2, u8or3, u8or4]; omega⟩
        have HQ4 := Lib.hid hq
        have hq32 : q4 < 32 := by omega
        have hqs : q4 < s.size := by omega
        have hqI : (q4 : Int) < 32 := by omega
        have hq0 : (0 : Int) ≤ q4 := by omega
        obtain ⟨y4, hy⟩ : ∃ y, a[q4]? = some y := ⟨_, List.getElem?_eq_getElem (by omega)⟩
        have hsq : s[q4] = y4 := str_at HS.out hqs hy
        have HY4 := Lib.hid hy
        clear hq hy
        have hset := hblk2.out.set_ (8 * k + 4) (.int .u8 (y4.toNat : Int))
        rw [cellsF_set] at hset
        have hblk3 : Hid (Blk (wv2.setCell ⟨D, 8 * k + 4, none⟩ (.int .u8 (y4.toNat : Int))).drew D 5 _) := Lib.hid hset
        have hbel3 : Hid (Below D w (wv2.setCell ⟨D, 8 * k + 4, none⟩ (.int .u8 (y4.toNat : Int))).drew) := Lib.hid (below_drewN (hbel2.out.setCell (p := ⟨D, 8 * k + 4, none⟩) (Nat.le_refl _) (.int .u8 (y4.toNat : Int))) 1)
        clear hset
        refine wp_region_still_tail 14 (by kernel_rfl) (by kernel_rfl) ?_
        simp only [List.take_succ_cons, List.take_zero, List.drop_succ_cons, List.drop_zero]
        repeat still_step
        refine wpStill_nil ?_
        change wpList _ _ _ _ _ wv2.drew
        go_wp2
        clear c2 cG cd fd hqe hq32 hqs hqI hq0 hsq
        generalize (wv2.setCell ⟨D, 8 * k + 4, none⟩ (.int .u8 (y4.toNat : Int))).drew = wv3 at hblk3 hbel3
        -- the letter 3
        have c1 : wv3.cell? ⟨b, o + 5 * k + 1, none⟩ = some (.int .u8 (x1.toNat : Int)) := by rw [hbel3.out.cell (p := ⟨b, _, none⟩) hbD, Nat.add_assoc]; exact HR.out _ _ h1.out
        have cG : wv3.cell? ⟨g, 0, none⟩ = some (.string s) := (hbel3.out.cell (p := ⟨g, 0, none⟩) hgD).trans ((HG.out.cell 0).trans (encC_zero _ _ _))
        have cd : wv3.cell? ⟨D, 8 * k + 3, none⟩ = some (.int .u8 _) := (hblk3.out.cell _).trans (cellsF_at _ _ (by omega))
        have fd := hblk3.out.frozen (8 * k + 3)
        obtain ⟨q3, hq, hqe⟩ : ∃ q : Nat, q = x1.toNat % 2 * 16 + x2.toNat / 16 ∧ bits .or .u8 ((x2.toNat : Int) / 16 % 32) (bits .and .u8 (IntKind.u8.wrap ((x1.toNat : Int) * 16)) 31) = (q : Int) := ⟨_, rfl, by simp (disch := omega) only [u8and31, u8wrap, u8or1, u8or2, u8or3, u8or4]; omega⟩
        have HQ3 := Lib.hid hq
        have hq32 : q3 < 32 := by omega
        have hqs : q3 < s.size := by omega
        have hqI : (q3 : Int) < 32 := by omega
        have hq0 : (0 : Int) ≤ q3 := by omega
        obtain ⟨y3, hy⟩ : ∃ y, a[q3]? = some y := ⟨_, List.getElem?_eq_getElem (by omega)⟩
        have hsq : s[q3] = y3 := str_at HS.out hqs hy
        have HY3 := Lib.hid hy
        clear hq hy
        have hset := hblk3.out.set_ (8 * k + 3) (.int .u8 (y3.toNat : Int))
        rw [cellsF_set] at hset
        have hblk4 : Hid (Blk (wv3.setCell ⟨D, 8 * k + 3, none⟩ (.int .u8 (y3.toNat : Int))).drew D 5 _) := Lib.hid hset
        have hbel4 : Hid (Below D w (wv3.setCell ⟨D, 8 * k + 3, none⟩ (.int .u8 (y3.toNat : Int))).drew) := Lib.hid (below_drewN (hbel3.out.setCell (p := ⟨D, 8 * k + 3, none⟩) (Nat.le_refl _) (.int .u8 (y3.toNat : Int))) 1)
        clear hset
        refine wp_region_still_tail 14 (by kernel_rfl) (by kernel_rfl) ?_
        simp only [List.take_succ_cons, List.take_zero, List.drop_succ_cons, List.drop_zero]
        repeat still_step
        refine wpStill_nil ?_
        change wpList _ _ _ _ _ wv3.drew
        go_wp2
        clear c1 cG cd fd hqe hq32 hqs hqI hq0 hsq
        generalize (wv3.setCell ⟨D, 8 * k + 3, none⟩ (.int .u8 (y3.toNat : Int))).drew = wv4 at hblk4 hbel4
        -- the letter 2
        have c1 : wv4.cell? ⟨b, o + 5 * k + 1, none⟩ = some (.int .u8 (x1.toNat : Int)) := by rw [hbel4.out.cell (p := ⟨b, _, none⟩) hbD, Nat.add_assoc]; exact HR.out _ _ h1.out
        have cG : wv4.cell? ⟨g, 0, none⟩ = some (.string s) := (hbel4.out.cell (p := ⟨g, 0, none⟩) hgD).trans ((HG.out.cell 0).trans (encC_zero _ _ _))
        have cd : wv4.cell? ⟨D, 8 * k + 2, none⟩ = some (.int .u8 _) := (hblk4.out.cell _).trans (cellsF_at _ _ (by omega))
        have fd := hblk4.out.frozen (8 * k + 2)
        obtain ⟨q2, hq, hqe⟩ : ∃ q : Nat, q = x1.toNat / 2 % 32 ∧ bits .and .u8 ((x1.toNat : Int) / 2) 31 = (q : Int) := ⟨_, rfl, by simp (disch := omega) only [u8and31, u8wrap, u8or1, u8or2, u8or3, u8or4]; omega⟩
        have HQ2 := Lib.hid hq
        have hq32 : q2 < 32 := by omega
        have hqs : q2 < s.size := by omega
        have hqI : (q2 : Int) < 32 := by omega
        have hq0 : (0 : Int) ≤ q2 := by omega
        obtain ⟨y2, hy⟩ : ∃ y, a[q2]? = some y := ⟨_, List.getElem?_eq_getElem (by omega)⟩
        have hsq : s[q2] = y2 := str_at HS.out hqs hy
        have HY2 := Lib.hid hy
        clear hq hy
        have hset := hblk4.out.set_ (8 * k + 2) (.int .u8 (y2.toNat : Int))
        rw [cellsF_set] at hset
        have hblk5 : Hid (Blk (wv4.setCell ⟨D, 8 * k + 2, none⟩ (.int .u8 (y2.toNat : Int))).drew D 5 _) := Lib.hid hset
        have hbel5 : Hid (Below D w (wv4.setCell ⟨D, 8 * k + 2, none⟩ (.int .u8 (y2.toNat : Int))).drew) := Lib.hid (below_drewN (hbel4.out.setCell (p := ⟨D, 8 * k + 2, none⟩) (Nat.le_refl _) (.int .u8 (y2.toNat : Int))) 1)
        clear hset
        refine wp_region_still_tail 12 (by kernel_rfl) (by kernel_rfl) ?_
        simp only [List.take_succ_cons, List.take_zero, List.drop_succ_cons, List.drop_zero]
        repeat still_step
        refine wpStill_nil ?_
        change wpList _ _ _ _ _ wv4.drew
        go_wp2
        clear c1 cG cd fd hqe hq32 hqs hqI hq0 hsq
        generalize (wv4.setCell ⟨D, 8 * k + 2, none⟩ (.int .u8 (y2.toNat : Int))).drew = wv5 at hblk5 hbel5
        -- the letter 1
        have c0 : wv5.cell? ⟨b, o + 5 * k, none⟩ = some (.int .u8 (x0.toNat : Int)) := by rw [hbel5.out.cell (p := ⟨b, _, none⟩) hbD]; exact HR.out _ _ h0.out
        have cG : wv5.cell? ⟨g, 0, none⟩ = some (.string s) := (hbel5.out.cell (p := ⟨g, 0, none⟩) hgD).trans ((HG.out.cell 0).trans (encC_zero _ _ _))
        have cd : wv5.cell? ⟨D, 8 * k + 1, none⟩ = some (.int .u8 _) := (hblk5.out.cell _).trans (cellsF_at _ _ (by omega))
        have fd := hblk5.out.frozen (8 * k + 1)
        obtain ⟨q1, hq, hqe⟩ : ∃ q : Nat, q = x0.toNat % 8 * 4 + x1.toNat / 64 ∧ bits .or .u8 ((x1.toNat : Int) / 64 % 32) (bits .and .u8 (IntKind.u8.wrap ((x0.toNat : Int) * 4)) 31) = (q : Int) := ⟨_, rfl, by simp (disch := omega) only [u8and31, u8wrap, u8or1, u8or2, u8or3, u8or4]; omega⟩
        have HQ1 := Lib.hid hq
        have hq32 : q1 < 32 := by omega
        have hqs : q1 < s.size := by omega
        have hqI : (q1 : Int) < 32 := by omega
        have hq0 : (0 : Int) ≤ q1 := by omega
        obtain ⟨y1, hy⟩ : ∃ y, a[q1]? = some y := ⟨_, List.getElem?_eq_getElem (by omega)⟩
        have hsq : s[q1] = y1 := str_at HS.out hqs hy
        have HY1 := Lib.hid hy
        clear hq hy
        have hset := hblk5.out.set_ (8 * k + 1) (.int .u8 (y1.toNat : Int))
        rw [cellsF_set] at hset
        have hblk6 : Hid (Blk (wv5.setCell ⟨D, 8 * k + 1, none⟩ (.int .u8 (y1.toNat : Int))).drew D 5 _) := Lib.hid hset
        have hbel6 : Hid (Below D w (wv5.setCell ⟨D, 8 * k + 1, none⟩ (.int .u8 (y1.toNat : Int))).drew) := Lib.hid (below_drewN (hbel5.out.setCell (p := ⟨D, 8 * k + 1, none⟩) (Nat.le_refl _) (.int .u8 (y1.toNat : Int))) 1)
        clear hset
        refine wp_region_still_tail 14 (by kernel_rfl) (by kernel_rfl) ?_
        simp only [List.take_succ_cons, List.take_zero, List.drop_succ_cons, List.drop_zero]
        repeat still_step
        refine wpStill_nil ?_
        change wpList _ _ _ _ _ wv5.drew
        go_wp2
        clear c0 cG cd fd hqe hq32 hqs hqI hq0 hsq
        generalize (wv5.setCell ⟨D, 8 * k + 1, none⟩ (.int .u8 (y1.toNat : Int))).drew = wv6 at hblk6 hbel6
        -- the letter 0
        have c0 : wv6.cell? ⟨b, o + 5 * k, none⟩ = some (.int .u8 (x0.toNat : Int)) := by rw [hbel6.out.cell (p := ⟨b, _, none⟩) hbD]; exact HR.out _ _ h0.out
        have cG : wv6.cell? ⟨g, 0, none⟩ = some (.string s) := (hbel6.out.cell (p := ⟨g, 0, none⟩) hgD).trans ((HG.out.cell 0).trans (encC_zero _ _ _))
        have cP : wv6.cell? ⟨g, 257, none⟩ = some (.int .i32 (-1)) := (hbel6.out.cell (p := ⟨g, 257, none⟩) hgD).trans ((HG.out.cell 257).trans (encC_pad _ _ _))
        have cd : wv6.cell? ⟨D, 8 * k, none⟩ = some (.int .u8 _) := (hblk6.out.cell _).trans (cellsF_at _ _ (by omega))
        have fd := hblk6.out.frozen (8 * k)
        obtain ⟨q0, hq, hqe⟩ : ∃ q : Nat, q = x0.toNat / 8 ∧ (x0.toNat : Int) / 8 = (q : Int) := ⟨_, rfl, by omega⟩
        have HQ0 := Lib.hid hq
        have hq32 : q0 < 32 := by omega
        have hqs : q0 < s.size := by omega
        have hqI : (q0 : Int) < 32 := by omega
        have hq0 : (0 : Int) ≤ q0 := by omega
        obtain ⟨y0, hy⟩ : ∃ y, a[q0]? = some y := ⟨_, List.getElem?_eq_getElem (by omega)⟩
        have hsq : s[q0] = y0 := str_at HS.out hqs hy
        have HY0 := Lib.hid hy
        clear hq hy
        have hset := hblk6.out.set_ (8 * k) (.int .u8 (y0.toNat : Int))
        rw [cellsF_set] at hset
        have hblk7 : Hid (Blk (wv6.setCell ⟨D, 8 * k, none⟩ (.int .u8 (y0.toNat : Int))).drew D 5 _) := Lib.hid hset
        have hbel7 : Hid (Below D w (wv6.setCell ⟨D, 8 * k, none⟩ (.int .u8 (y0.toNat : Int))).drew) := Lib.hid (below_drewN (hbel6.out.setCell (p := ⟨D, 8 * k, none⟩) (Nat.le_refl _) (.int .u8 (y0.toNat : Int))) 1)
        clear hset
        refine wp_region_still_tail 11 (by kernel_rfl) (by kernel_rfl) ?_
        simp only [List.take_succ_cons, List.take_zero, List.drop_succ_cons, List.drop_zero]
        repeat still_step
        refine wpStill_nil ?_
        change wpList _ _ _ _ _ wv6.drew
        go_wp2
        go_end0
        refine ⟨rfl, ?_, hbel7.out⟩
        refine Eq.mp (congrArg (fun cs => Blk _ D 5 cs) (cellsF_ext m _ (fun i hi => ?_))) hblk7.out
        simp only [updF]
        exact upd7 (elF a l) k _ _ _ _ _ _ _ (elF_at a l k 0 q0 y0 (by omega) (by rw [drop4 h0.out h1.out h2.out h3.out (by omega)]; simp only [List.map_cons, List.map_nil, e32, List.getElem?_cons_succ, List.getElem?_cons_zero, HQ0.out]) HY0.out) (elF_at a l k 1 q1 y1 (by omega) (by rw [drop4 h0.out h1.out h2.out h3.out (by omega)]; simp only [List.map_cons, List.map_nil, e32, List.getElem?_cons_succ, List.getElem?_cons_zero, HQ1.out]) HY1.out) (elF_at a l k 2 q2 y2 (by omega) (by rw [drop4 h0.out h1.out h2.out h3.out (by omega)]; simp only [List.map_cons, List.map_nil, e32, List.getElem?_cons_succ, List.getElem?_cons_zero, HQ2.out]) HY2.out) (elF_at a l k 3 q3 y3 (by omega) (by rw [drop4 h0.out h1.out h2.out h3.out (by omega)]; simp only [List.map_cons, List.map_nil, e32, List.getElem?_cons_succ, List.getElem?_cons_zero, HQ3.out]) HY3.out) (elF_at a l k 4 q4 y4 (by omega) (by rw [drop4 h0.out h1.out h2.out h3.out (by omega)]; simp only [List.map_cons, List.map_nil, e32, List.getElem?_cons_succ, List.getElem?_cons_zero, HQ4.out]) HY4.out) (elF_at a l k 5 q5 y5 (by omega) (by rw [drop4 h0.out h1.out h2.out h3.out (by omega)]; simp only [List.map_cons, List.map_nil, e32, List.getElem?_cons_succ, List.getElem?_cons_zero, HQ5.out]) HY5.out) (elF_at a l k 6 q6 y6 (by omega) (by rw [drop4 h0.out h1.out h2.out h3.out (by omega)]; simp only [List.map_cons, List.map_nil, e32, List.getElem?_cons_succ, List.getElem?_cons_zero, HQ6.out]) HY6.out) i (by omega)
end Go.Proofs.YtilngifollpoeaaGreatFmt
