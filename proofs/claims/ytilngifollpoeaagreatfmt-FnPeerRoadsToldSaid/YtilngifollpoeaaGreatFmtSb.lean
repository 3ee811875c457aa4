/- base58 as the specification writes it: spec.PeerBase58. -/
import Derived.Test.YtilngifollpoeaaGreatFmtSb1
import Derived.Test.YtilngifollpoeaaGreatFmtB58x
import Derived.Deep.Upon
namespace Go.Proofs.YtilngifollpoeaaGreatFmt
open Go.RowKit

/-- The slice of a number's digits: nil where it has none; else in a block of its own from B on. -/
def NumAt (B : Nat) (w : World) (ao : Option Addr) (K c : Nat) (l : List Nat) : Prop :=
  l.length = K ∧ K ≤ c ∧ ((K = 0 ∧ ao = none ∧ c = 0) ∨ (0 < K ∧ ∃ g, ao = some ⟨g, 0, none⟩ ∧ B ≤ g ∧ g < w.heap.size ∧ Row w g K (fun i => l.getD i 0)))

theorem bytesOne {P : Program} {e : TypeId} (hi : (P.info? e).map (fun i => (i.zero, i.size, i.bytes)) = some (some (.int .u8 0), 1, 1)) : ∃ i, P.info? e = some i ∧ i.zero = some (.int .u8 0) ∧ i.size = 1 ∧ i.bytes = 1 := by
  obtain ⟨i0, h, h3⟩ := Option.map_eq_some_iff.1 hi
  obtain ⟨h1, h12⟩ := Prod.mk.inj h3
  obtain ⟨h2, h4⟩ := Prod.mk.inj h12
  exact ⟨i0, h, h1, h2, h4⟩

/-- append([]byte{d}, number...): the digits with d ahead of them, in a block of its own. -/
theorem prepend (B K c d : Nat) (ao : Option Addr) (l : List Nat) (W : World) (ty : TypeId) (h : NumAt B W ao K c l) (hB : B ≤ W.heap.size) (hK : K ≤ 1000000000) :
    ∃ g c' W', (Builtin.append_ #[22, 22] ty #[.slice (some ⟨W.heap.size, 0, none⟩) 1 1, .slice ao K c]).run Tryz.prog (W.alloc (.cells #[.int .u8 (d : Int)] 5)) = .ok (.slice (some ⟨g, 0, none⟩) (K + 1) c') W' ∧
      NumAt B W' (some ⟨g, 0, none⟩) (K + 1) c' (d :: l) ∧ Below W.heap.size W W' := by
  obtain ⟨hl, hKc, h⟩ := h
  obtain ⟨i, hi, hz, hsz, hby⟩ := bytesOne infoByte
  obtain ⟨W1, hW1⟩ : ∃ W1, W1 = W.alloc (.cells #[.int .u8 (d : Int)] 5) := ⟨_, rfl⟩
  have hblk : Blk W1 W.heap.size 5 #[.int .u8 (d : Int)] := by rw [hW1]; exact Blk.new W _ _
  have hb1 : Below W.heap.size W W1 := by rw [hW1]; exact (Below.refl _ _).alloc (Nat.le_refl _) _
  have hs1 : W1.heap.size = W.heap.size + 1 := by rw [hW1]; simp
  rw [← hW1]
  rcases h with ⟨hK0, rfl, rfl⟩ | ⟨hK0, g, rfl, hBg, hgW, hrow⟩
  · subst hK0
    obtain rfl : l = [] := List.eq_nil_of_length_eq_zero hl
    refine ⟨W.heap.size, 1, W1, ?_, ⟨rfl, Nat.le_refl _, .inr ⟨by omega, _, rfl, hB, by omega, ?_⟩⟩, hb1⟩
    · exact run_append_nothing W1 _ _ ty 5 i Tryz.underlying22 hi _ 1 1 (Nat.le_refl _) _ (Src.ofNil W1 Tryz.underlying22 0)
    · refine Row.ofBlk (l := [d]) hblk (fun i d' hd => ?_)
      match i with
      | 0 => cases hd; rfl
      | i + 1 => cases hd
  · have hrow1 := hrow.below hb1 hgW
    have hrun := run_append_grow (P := Tryz.prog) W1 22 ty 5 i (.int .u8 0) Tryz.underlying22 hi hz ⟨W.heap.size, 0, none⟩ 1 1 [.int .u8 (d : Int)] (by rw [hsz]; rfl) (fun j v hj => by
        have e : (⟨W.heap.size, 0, none⟩ : Addr).add j = ⟨W.heap.size, j, none⟩ := by unfold Addr.add; split <;> simp_all
        rw [e, hblk.cell]
        simpa using hj) ⟨g, 0, none⟩ K c (dcells l) (by rw [hsz, dcells_len, hl, Nat.mul_one]) (hrow1.news hl) (by omega) (by omega) (by
          rw [hby, Nat.mul_one]
          have := nextslicecap_le (need := 1 + K) (old := 1) (by omega)
          omega)
    rw [Nat.add_comm 1 K] at hrun
    refine ⟨W1.heap.size, grownCap W1 (K + 1) 1 5, _, hrun, ⟨by rw [List.length_cons, hl], grownCap_ge _ _ _ _, .inr ⟨by omega, _, rfl, by omega, by simp, ?_⟩⟩, (below_drewN hb1 1).alloc (by show W.heap.size ≤ W1.heap.size; omega) _⟩
    have hr := Row.ofBlk (l := d :: l) (Blk.new W1.drew 5 ([Value.int .u8 (d : Int)].toArray ++ (dcells l).toArray ++ Builtin.zeroCells (Value.int .u8 0).cells (grownCap W1 (K + 1) 1 5 - (K + 1)))) (fun i d' hd => by
      have hil := (List.getElem?_eq_some_iff.1 hd).1
      rw [Array.getElem?_append_left (by simp only [Array.size_append, List.size_toArray, dcells_len, List.length_singleton]; rw [List.length_cons] at hil; omega)]
      match i with
      | 0 => cases hd; simp
      | i + 1 =>
        rw [Array.getElem?_append_right (by simp)]
        simp only [List.size_toArray, List.length_singleton, Nat.add_sub_cancel, List.getElem?_toArray, dcells, List.getElem?_map]
        rw [List.getElem?_cons_succ] at hd
        rw [hd]
        rfl)
    rw [List.length_cons, hl] at hr
    exact hr

end Go.Proofs.YtilngifollpoeaaGreatFmt
