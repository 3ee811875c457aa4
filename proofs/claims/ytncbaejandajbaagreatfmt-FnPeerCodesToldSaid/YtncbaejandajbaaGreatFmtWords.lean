/- Words for the walks: a slice that reads as bytes, a block that is known whole; nothing of the program stands here. -/
import Derived.WalkKit
import Derived.Below
import Derived.Laws.OwnMore
import Derived.Deep.AppendLies
import Derived.Deep.Draws
import Derived.Laws.Rows
import Derived.Lib.Hide
import Derived.Lib.UnsafeStr
import Derived.Lib.VarintMem
import Derived.Laws.IdiomCopy
namespace Go.Proofs.YtncbaejandajbaaGreatFmt
open Go.RowKit

/-- A number as the cell of a byte. -/
abbrev u8 (b : UInt8) : Value := .int .u8 (b.toNat : Int)

/-- The cells from (b, o) on hold the bytes l. -/
def RdAt (w : World) (b o : Nat) (l : List UInt8) : Prop := ∀ (j : Nat) (x : UInt8), l[j]? = some x → w.cell? ⟨b, o + j, none⟩ = some (.int .u8 (x.toNat : Int))

/-- A slice value whose bytes are l: not nil, in a block below B. -/
def Rd (w : World) (B : Nat) (v : Value) (l : List UInt8) : Prop :=
  ∃ b o c, v = .slice (some ⟨b, o, none⟩) l.length c ∧ b < B ∧ l.length ≤ c ∧ c ≤ maxLen ∧ RdAt w b o l

section
variable {w w' : World} {B B' b o : Nat} {v : Value} {l : List UInt8}

theorem RdAt.below (h : RdAt w b o l) (hB : Below B w w') (hb : b < B) : RdAt w' b o l := fun j x hx => (hB.cell (p := ⟨b, o + j, none⟩) hb).trans (h j x hx)
theorem RdAt.drop (h : RdAt w b o l) (k : Nat) : RdAt w b (o + k) (l.drop k) := fun j x hx => by
  rw [Nat.add_assoc]
  exact h (k + j) x (by rw [← hx, List.getElem?_drop])
theorem RdAt.take (h : RdAt w b o l) (k : Nat) : RdAt w b o (l.take k) := fun j x hx => by
  rw [List.getElem?_take] at hx
  split at hx
  · exact h j x hx
  · cases hx
theorem RdAt.nil (w : World) (b o : Nat) : RdAt w b o [] := fun j x hx => by simp at hx
theorem RdAt.at_ (h : RdAt w b o l) {k : Nat} (hk : k < l.length) : w.cell? ⟨b, o + k, none⟩ = some (.int .u8 ((l[k]).toNat : Int)) := h k _ (List.getElem?_eq_getElem hk)

theorem Rd.below (h : Rd w B v l) (hB : Below B w w') : Rd w' B v l := by
  obtain ⟨b, o, c, e, hb, h1, h2, h3⟩ := h
  exact ⟨b, o, c, e, hb, h1, h2, h3.below hB hb⟩
theorem Rd.more (h : Rd w B v l) (hB : B ≤ B') : Rd w B' v l := by
  obtain ⟨b, o, c, e, hb, h1, h2, h3⟩ := h
  exact ⟨b, o, c, e, by omega, h1, h2, h3⟩
/-- On to a later world: what stood below the old heap's size stands there. -/
theorem Rd.on (h : Rd w w.heap.size v l) (hB : Below w.heap.size w w') : Rd w' w'.heap.size v l := (h.below hB).more hB.size
end

/-- Cells and marks below the size are as they were. -/
theorem bcell {W w1 : World} (hb : Below W.heap.size W w1) : (∀ b o, b < W.heap.size → w1.cell? ⟨b, o, none⟩ = W.cell? ⟨b, o, none⟩) ∧ (∀ b o, b < W.heap.size → w1.frozen? ⟨b, o, none⟩ = W.frozen? ⟨b, o, none⟩) :=
  ⟨fun b o h => hb.cell (p := ⟨b, o, none⟩) h, fun b o h => hb.frozen (p := ⟨b, o, none⟩) h⟩

theorem below_drewN {B : Nat} {a w : World} (h : Below B a w) (n : Nat) : Below B a (w.drewN n) := ⟨h.os, h.tape, h.output, h.size, h.block⟩

/-- Two calls, one behind the other. -/
theorem Below.then_ {a b c : World} (h : Below a.heap.size a b) (k : Below b.heap.size b c) : Below a.heap.size a c := h.trans (k.mono h.size)

/-- A block that is known whole, none of it frozen. -/
def Blk (w : World) (g : Nat) (t : TypeId) (cs : Array Value) : Prop := w.heap[g]? = some (.cells cs t (0, 0))

section
variable {w w' : World} {g : Nat} {t : TypeId} {cs : Array Value}
theorem Blk.lt (h : Blk w g t cs) : g < w.heap.size := by
  rcases Nat.lt_or_ge g w.heap.size with hlt | hge
  · exact hlt
  · unfold Blk at h; rw [Array.getElem?_eq_none hge] at h; cases h
theorem Blk.cell (h : Blk w g t cs) (i : Nat) : w.cell? ⟨g, i, none⟩ = cs[i]? := cell_of_row w g i cs t (0, 0) h
theorem Blk.frozen (h : Blk w g t cs) (i : Nat) : w.frozen? ⟨g, i, none⟩ = false := by
  unfold Blk at h
  simp [World.frozen?, h]
theorem Blk.new (w : World) (t : TypeId) (cs : Array Value) : Blk (w.alloc (.cells cs t)) w.heap.size t cs := heap_alloc_new w _
theorem Blk.drew (h : Blk w g t cs) : Blk w.drew g t cs := h
theorem Blk.drewN (h : Blk w g t cs) (n : Nat) : Blk (w.drewN n) g t cs := h
theorem Blk.alloc (h : Blk w g t cs) (o : Obj) : Blk (w.alloc o) g t cs := (Below.heap_alloc w o g h.lt).trans h
theorem Blk.set_ (h : Blk w g t cs) (i : Nat) (u : Value) : Blk (w.setCell ⟨g, i, none⟩ u) g t (cs.setIfInBounds i u) := by
  unfold Blk at h ⊢
  simp [World.setCell, Array.getElem?_modify, h]
theorem Blk.far (h : Blk w g t cs) {p : Addr} (hp : g ≠ p.block) (u : Value) : Blk (w.setCell p u) g t cs := (Below.heap_setCell w p u g hp).trans h
theorem Blk.below {B : Nat} (h : Blk w g t cs) (hb : Below B w w') (hg : g < B) : Blk w' g t cs := (hb.block g hg).trans h
theorem Blk.on (h : Blk w g t cs) (hb : Below w.heap.size w w') : Blk w' g t cs := h.below hb h.lt
theorem Blk.grown {row : Option Nat} (h : Blk w g t cs) (hb : w.grownBy w' row) (hg : some g ≠ row) : Blk w' g t cs := (hb.block g h.lt hg).trans h
/-- Bytes in a block that is known whole. -/
theorem Blk.rd (h : Blk w g t cs) (o : Nat) (l : List UInt8) (hl : ∀ (j : Nat) (x : UInt8), l[j]? = some x → cs[o + j]? = some (.int .u8 (x.toNat : Int))) : RdAt w g o l := fun j x hx => (h.cell _).trans (hl j x hx)
end

theorem results_tmp4 {fn : Func} {t u v x : Tmp} (h : fn.results = #[.tmp t, .tmp u, .tmp v, .tmp x]) (tmps : Array Value) (P : Program) (w : World) :
    (results fn tmps).run P w = .ok (.tuple #[tmps.getD t undef, tmps.getD u undef, tmps.getD v undef, tmps.getD x undef]) w := by simp [results, h]

end Go.Proofs.YtncbaejandajbaaGreatFmt
