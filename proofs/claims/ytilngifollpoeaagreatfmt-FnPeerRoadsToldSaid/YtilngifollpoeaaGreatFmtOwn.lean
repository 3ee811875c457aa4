/- Bytes in a row of one's own; what is appended to it. -/
import Derived.Test.YtilngifollpoeaaGreatFmtBuild
import Derived.Test.YtilngifollpoeaaGreatFmtCid1
import Derived.Lib.Varint
import Derived.Lib.VarintBits
import Derived.Deep.Upon
import Derived.Lib.AppendZerosOnto
namespace Go.Proofs.YtilngifollpoeaaGreatFmt
open Go.RowKit

/-- Bytes in a row of their own from the block B on (nil where there are none). -/
abbrev OwnB (B : Nat) (w : World) (v : Value) (l : List UInt8) : Prop := w.ownsRow B 5 1 v l.length (Lib.byteCells l)

/-- What is appended: bytes at an address; or nothing. -/
def SrcB (w : World) (x : Value) (k : List UInt8) : Prop := ∃ ao c, x = .slice ao k.length c ∧ (k = [] → ao = none ∨ ∃ a, ao = some a) ∧ (k ≠ [] → ∃ a, ao = some a ∧ a.block < w.heap.size ∧ ∀ j x, k[j]? = some x → w.cell? (a.add j) = some (.int .u8 (x.toNat : Int)))

theorem RdAt.adds {w : World} {b o : Nat} {k : List UInt8} (h : RdAt w b o k) : ∀ j x, k[j]? = some x → w.cell? ((⟨b, o, none⟩ : Addr).add j) = some (.int .u8 (x.toNat : Int)) := fun j x hx => by
  have e : (⟨b, o, none⟩ : Addr).add j = ⟨b, o + j, none⟩ := by unfold Addr.add; split <;> simp_all
  rw [e]
  exact h j x hx

theorem add_block (a : Addr) (j : Nat) : (a.add j).block = a.block := by unfold Addr.add; split <;> rfl

theorem SrcB.ofRd {w : World} {v : Value} {k : List UInt8} (h : Rd w w.heap.size v k) : SrcB w v k := by
  obtain ⟨b, o, c, rfl, hb, _, _, hat⟩ := h
  exact ⟨_, _, rfl, fun _ => .inr ⟨_, rfl⟩, fun _ => ⟨_, rfl, hb, hat.adds⟩⟩

theorem SrcB.below {w w' : World} {v : Value} {k : List UInt8} (h : SrcB w v k) (hb : Below w.heap.size w w') : SrcB w' v k := by
  obtain ⟨ao, c, rfl, h0, h1⟩ := h
  refine ⟨ao, c, rfl, h0, fun hk => ?_⟩
  obtain ⟨a, rfl, hbl, hat⟩ := h1 hk
  exact ⟨a, rfl, by have := hb.size; omega, fun j x hx => (hb.cell (p := a.add j) (by rw [add_block]; exact hbl)).trans (hat j x hx)⟩

theorem byteOne : ∃ i, Tryz.prog.info? 5 = some i ∧ i.zero = some (.int .u8 0) ∧ i.size = 1 ∧ i.bytes = 1 := by
  obtain ⟨i0, h, h3⟩ := Option.map_eq_some_iff.1 infoByte
  obtain ⟨h1, h12⟩ := Prod.mk.inj h3
  obtain ⟨h2, h4⟩ := Prod.mk.inj h12
  exact ⟨i0, h, h1, h2, h4⟩

theorem bcells_at (k : List UInt8) (j : Nat) (u : Value) (h : (Lib.byteCells k)[j]? = some u) : ∃ x, k[j]? = some x ∧ u = .int .u8 (x.toNat : Int) := by
  unfold Lib.byteCells at h
  rw [List.getElem?_map] at h
  obtain ⟨x, hx, rfl⟩ := Option.map_eq_some_iff.1 h
  exact ⟨x, hx, rfl⟩

theorem bcells_one (k : List UInt8) : ∀ u ∈ Lib.byteCells k, u.oneCell' = true := by
  intro u hu
  unfold Lib.byteCells at hu
  obtain ⟨x, _, rfl⟩ := List.mem_map.1 hu
  rfl

/-- append of bytes onto a row of one's own. -/
theorem appendOwn (B : Nat) (v x : Value) (l k : List UInt8) (W : World) (ty : TypeId) (h : OwnB B W v l) (hx : SrcB W x k) (hB : B ≤ W.heap.size) (hl : l.length + k.length ≤ 1000000000) :
    ∃ v' W', (Builtin.append_ #[22, 22] ty #[v, x]).run Tryz.prog W = .ok v' W' ∧ OwnB B W' v' (l ++ k) ∧ (v' = .slice none 0 0 → v = .slice none 0 0 ∧ k = []) ∧ Below B W W' := by
  obtain ⟨i, hi, hz, hsz, hby⟩ := byteOne
  obtain ⟨ao, c, rfl, h0, h1⟩ := hx
  by_cases hk : k = []
  · subst hk
    refine ⟨v, W, ?_, by rw [List.append_nil]; exact h, fun e => ⟨e, rfl⟩, Below.refl _ _⟩
    have hs : Src Tryz.prog i.size 22 (.slice ao 0 c) 0 [] W := by
      rcases h0 rfl with rfl | ⟨a, rfl⟩
      · exact Src.ofNil W Tryz.underlying22 c
      · exact Src.ofSlice W Tryz.underlying22 a 0 c [] (by simp) (fun j u hj => by simp at hj) (fun u hu => by cases hu)
    rcases h.2 with ⟨rfl, hn⟩ | ⟨g, cap, cur, rfl, _, _, hc, _⟩
    · exact run_append_nothing W _ _ ty 5 i Tryz.underlying22 hi none 0 0 (Nat.le_refl _) _ hs
    · exact run_append_nothing W _ _ ty 5 i Tryz.underlying22 hi _ _ _ hc _ hs
  · obtain ⟨a, rfl, hbl, hat⟩ := h1 hk
    obtain ⟨v', W', hrun, hown, hgrow, hnil⟩ := run_append_own (P := Tryz.prog) W B 22 ty 5 i (.int .u8 0) 1 1 Tryz.underlying22 hi hz hsz hby rfl (by decide) v l.length (Lib.byteCells l) h a k.length c (Lib.byteCells k) (by rw [Lib.byteCells_length, Nat.mul_one]) (fun j u hj => by
      obtain ⟨y, hy, rfl⟩ := bcells_at k j u hj
      exact hat j y hy) (bcells_one k) (by unfold maxLen; omega) (by omega) hB
    refine ⟨v', W', hrun, ?_, fun e => ?_, (Below.refl B W).grown hgrow hB (fun q hq => (h.lt q hq).1)⟩
    · unfold OwnB
      rw [List.length_append, Lib.byteCells_append]
      exact hown
    · have := (hnil.1 e).2
      exact absurd (List.eq_nil_of_length_eq_zero this) hk

/-- append of a byte that was laid into a block of its own just ahead. -/
theorem appendByte (B : Nat) (v : Value) (l : List UInt8) (x : UInt8) (W : World) (ty : TypeId) (h : OwnB B W v l) (hB : B ≤ W.heap.size) (hl : l.length + 1 ≤ 1000000000) :
    ∃ v' W', (Builtin.append_ #[22, 22] ty #[v, .slice (some ⟨W.heap.size, 0, none⟩) 1 1]).run Tryz.prog (W.alloc (.cells #[.int .u8 (x.toNat : Int)] 5)) = .ok v' W' ∧ OwnB B W' v' (l ++ [x]) ∧ v' ≠ .slice none 0 0 ∧ Below B W W' := by
  obtain ⟨v', W', hrun, hown, hne, hb⟩ := appendOwn B v (.slice (some ⟨W.heap.size, 0, none⟩) 1 1) l [x] (W.alloc (.cells #[.int .u8 (x.toNat : Int)] 5)) ty (h.alloc _)
    ⟨_, _, rfl, fun e => by simp at e, fun _ => ⟨_, rfl, by simp, RdAt.adds ((Blk.new W _ _).rd 0 [x] (fun j y hy => by
      match j with
      | 0 => cases hy; rfl
      | j + 1 => cases hy))⟩⟩ (by simp; omega) (by simpa using hl)
  exact ⟨v', W', hrun, hown, fun e => by simpa using (hne e).2, ((Below.refl B W).alloc hB _).trans hb⟩

/-- What owns bytes reads as them. -/
theorem OwnB.rd {B : Nat} {w : World} {v : Value} {l : List UInt8} (h : OwnB B w v l) (hne : v ≠ .slice none 0 0) : Rd w w.heap.size v l := by
  rcases h.2 with ⟨h0, _⟩ | ⟨g, cap, cur, rfl, hb, hg, h1, h2, h3, h4⟩
  · exact absurd h0 hne
  · refine ⟨g, 0, cap, rfl, Blk.lt (t := 5) (cs := cur) hg, h1, h2, fun j x hx => ?_⟩
    have hj : j < l.length := (List.getElem?_eq_some_iff.1 hx).1
    have hc := h.cells (g := g) rfl j (.int .u8 (x.toNat : Int)) (by unfold Lib.byteCells; rw [List.getElem?_map, hx]; rfl)
    rw [show (⟨g, 0, none⟩ : Addr).add j = ⟨g, 0 + j, none⟩ from by unfold Addr.add; split <;> simp_all] at hc
    exact hc
end Go.Proofs.YtilngifollpoeaaGreatFmt
