/- A row of bytes cell by cell, none of them frozen. -/
import Derived.Test.YtncbaejandajbaaGreatFmtWords
import Derived.Test.YtncbaejandajbaaGreatFmtB32p
namespace Go.Proofs.YtncbaejandajbaaGreatFmt
open Go.RowKit

/-- The cells 0 .. m - 1 of the block D hold the bytes F 0 .. F (m - 1) and may be written. -/
def Row (w : World) (D m : Nat) (F : Nat → Nat) : Prop := ∀ i, i < m → w.cell? ⟨D, i, none⟩ = some (.int .u8 ((F i : Nat) : Int)) ∧ w.frozen? ⟨D, i, none⟩ = false

section
variable {w w' : World} {D m B : Nat} {F : Nat → Nat}
theorem Row.cell (h : Row w D m F) {i : Nat} (hi : i < m) : w.cell? ⟨D, i, none⟩ = some (.int .u8 ((F i : Nat) : Int)) := (h i hi).1
theorem Row.frozen (h : Row w D m F) {i : Nat} (hi : i < m) : w.frozen? ⟨D, i, none⟩ = false := (h i hi).2
theorem Row.set_ (h : Row w D m F) {i : Nat} (hi : i < m) (v : Nat) : Row (w.setCell ⟨D, i, none⟩ (.int .u8 (v : Int))) D m (updF F i v) := by
  intro j hj
  refine ⟨?_, by rw [World.frozen?_setCell]; exact h.frozen hj⟩
  unfold updF
  by_cases e : j = i
  · subst e
    rw [if_pos rfl]
    exact World.cell?_setCell_same _ _ _ (h.cell hj)
  · rw [if_neg e]
    refine Eq.trans (World.cell?_setCell_other _ _ _ _ (fun e2 => e ?_)) (h.cell hj)
    injection e2 with e3 e4
    exact e4.symm
theorem Row.below (h : Row w D m F) (hb : Below B w w') (hD : D < B) : Row w' D m F := fun i hi => ⟨(hb.cell (p := ⟨D, i, none⟩) hD).trans (h.cell hi), (hb.frozen (p := ⟨D, i, none⟩) hD).trans (h.frozen hi)⟩
theorem Row.ext (h : Row w D m F) {G : Nat → Nat} (e : ∀ i, i < m → F i = G i) : Row w D m G := fun i hi => by
  rw [← e i hi]
  exact h i hi
theorem Row.less (h : Row w D m F) {k : Nat} (hk : k ≤ m) : Row w D k F := fun i hi => h i (by omega)
theorem Row.drewN (h : Row w D m F) (n : Nat) : Row (w.drewN n) D m F := h
theorem Row.drew (h : Row w D m F) : Row w.drew D m F := h
theorem Row.rd (h : Row w D m F) {l : List UInt8} (hl : l.length ≤ m) (e : ∀ i x, l[i]? = some x → F i = x.toNat) : RdAt w D 0 l := fun j x hx => by
  have hj : j < l.length := (List.getElem?_eq_some_iff.1 hx).1
  rw [Nat.zero_add, h.cell (by omega), e j x hx]
theorem Row.ofRd {l : List UInt8} (h : RdAt w D 0 l) (hf : ∀ i, i < l.length → w.frozen? ⟨D, i, none⟩ = false) : Row w D l.length (fun i => (l.getD i 0).toNat) := fun i hi => by
  refine ⟨?_, hf i hi⟩
  have h2 := h i l[i] (List.getElem?_eq_getElem hi)
  rw [Nat.zero_add] at h2
  rw [h2]
  simp only [List.getD_eq_getElem?_getD, List.getElem?_eq_getElem hi, Option.getD_some]
end
theorem Row.zero8 (w : World) (t : TypeId) : Row (w.alloc (.cells #[.int .u8 0, .int .u8 0, .int .u8 0, .int .u8 0, .int .u8 0, .int .u8 0, .int .u8 0, .int .u8 0] t)) w.heap.size 8 (fun _ => 0) := fun i hi => by
  refine ⟨((Blk.new w t _).cell i).trans ?_, (Blk.new w t _).frozen i⟩
  have h : i = 0 ∨ i = 1 ∨ i = 2 ∨ i = 3 ∨ i = 4 ∨ i = 5 ∨ i = 6 ∨ i = 7 := by omega
  rcases h with rfl | rfl | rfl | rfl | rfl | rfl | rfl | rfl <;> rfl
end Go.Proofs.YtncbaejandajbaaGreatFmt
