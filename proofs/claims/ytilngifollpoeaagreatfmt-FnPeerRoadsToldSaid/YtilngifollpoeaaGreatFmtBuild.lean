/- strings.Builder, used: copyCheck, WriteByte and Write. -/
import Derived.Shelf.Strings.Builder1
import Derived.Shelf.Strings.Builder2
import Derived.Test.YtilngifollpoeaaGreatFmtBase
import Derived.Test.YtilngifollpoeaaGreatFmtProg
import Derived.RegionTactic
namespace Go.Proofs.YtilngifollpoeaaGreatFmt
open Go.RowKit

abbrev BAt (B b : Nat) (l : List UInt8) (w : World) : Prop := Lib.BuilderAt 115 5 B b (.pointer (some ⟨b, 0, none⟩)) (Lib.byteCells l) w

theorem infoByte : (Tryz.prog.info? 5).map (fun i => (i.zero, i.size, i.bytes)) = some (some (.int .u8 0), 1, 1) := by kernel_rfl
theorem sizeBuilder : (Tryz.prog.info? 115).map TypeInfo.size = some 2 := by kernel_rfl

theorem bAt_lt {B b : Nat} {l : List UInt8} {w : World} (h : BAt B b l w) : b < w.heap.size := by
  obtain ⟨_, v, hbk, _⟩ := h
  rcases Nat.lt_or_ge b w.heap.size with h' | h'
  · exact h'
  · simp [Array.getElem?_eq_none h'] at hbk

theorem BAt.kept {B b : Nat} {l : List UInt8} {w w' : World} {g : Nat} {t : TypeId} {cs : Array Value} (h : BAt B b l w) (hk : Blk w g t cs) (ht : t ≠ 5) (hgb : b ≠ g) (hg : w.grownBy w' (some g)) : BAt B b l w' := by
  have hlt := bAt_lt h
  obtain ⟨hB, v, hbk, hown, hne⟩ := h
  exact ⟨hB, v, (hg.block b hlt (by simpa using hgb)).trans hbk, hown.kept hg (.inr (Lib.ownBlock_ne hown hk ht)), hne⟩
theorem BAt.set_far {B b : Nat} {l : List UInt8} {w : World} {g : Nat} {t : TypeId} {cs : Array Value} (h : BAt B b l w) (hk : Blk w g t cs) (ht : t ≠ 5) (hgb : b ≠ g) (i : Nat) (u : Value) : BAt B b l (w.setCell ⟨g, i, none⟩ u) :=
  h.kept hk ht hgb ⟨rfl, rfl, rfl, by simp [World.setCell], fun k _ hk => Below.heap_setCell _ _ _ _ (fun e => hk (by simp [e]))⟩
theorem BAt.alloc_ {B b : Nat} {l : List UInt8} {w : World} (h : BAt B b l w) (o : Obj) : BAt B b l (w.alloc o) := by
  have hlt := bAt_lt h
  obtain ⟨hB, v, hbk, hown, hne⟩ := h
  exact ⟨hB, v, (Lib.alloc_old w o b hlt).trans hbk, hown.alloc o, hne⟩

set_option maxHeartbeats 1000000 in
set_option maxRecDepth 100000 in
theorem copyCheck_used (b : Nat) (w : World) (h0 : w.cell? ⟨b, 0, none⟩ = some (.pointer (some ⟨b, 0, none⟩))) :
    Calls Tryz.prog 114 #[.pointer (some ⟨b, 0, none⟩)] w fun e w' => e = .returned (.tuple #[]) ∧ w' = w := by
  obtain ⟨j, hj, _⟩ := Option.map_eq_some_iff.1 sizeBuilder
  go_enter Tryz.func114, Tryz.ntmps114
  go_wp2
  rw [Lib.run_neq_ptr_same w _ Tryz.underlying113 hj]
  go_wp2
  go_end0
  exact ⟨rfl, rfl⟩

set_option maxHeartbeats 2000000 in
set_option maxRecDepth 100000 in
theorem WriteByte_any (B b : Nat) (l : List UInt8) (c : UInt8) (w : World) (h : BAt B b l w) (hlen : l.length + 1 ≤ 140737488355328) (hBw : B ≤ w.heap.size) :
    Calls Tryz.prog 70 #[.pointer (some ⟨b, 0, none⟩), .int .u8 (c.toNat : Int)] w fun e w' => e = .returned .nilIface ∧ BAt B b (l ++ [c]) w' ∧ Below B w w' := by
  obtain ⟨i0, hi, hi3⟩ := Option.map_eq_some_iff.1 infoByte
  obtain ⟨hz0, hz12⟩ := Prod.mk.inj hi3
  obtain ⟨hz1, hz2⟩ := Prod.mk.inj hz12
  have C := Lib.hid (copyCheck_used b w h.cell0)
  have hlt := bAt_lt h
  have hle := Lib.byteCells_length l
  obtain ⟨hB, v, hbk, hown, hne⟩ := h
  have c0 : w.cell? ⟨b, 0, none⟩ = some (.pointer (some ⟨b, 0, none⟩)) := by rw [Lib.cell_of_heap hbk]; rfl
  have c1 : w.cell? ⟨b, 1, none⟩ = some v := by rw [Lib.cell_of_heap hbk]; rfl
  rw [hle] at hown
  go_enter Tryz.func70, Tryz.ntmps70
  go_wp2_with fail
  refine C.out.mono ?_
  rintro e w1 ⟨rfl, rfl⟩
  go_wp2_with (at_builtin; refine wpList_append_own _ rfl _ _ 22 rfl B 5 i0 (.int .u8 0) 1 1 Tryz.underlying22 hi hz0 hz1 hz2 rfl (by decide) _ _ _ rfl (hown.alloc _) ⟨w1.heap.size, 0, none⟩ 1 1 [.int .u8 (c.toNat : Int)] rfl rfl ?c1 ?c2 ?c3 ?c4 ?c5 ?_)
  case c1 =>
    intro j u hj
    match j, hj with
    | 0, hj => simp at hj; subst hj; simp [Addr.add]
  case c2 => intro u hu; simp at hu; subst hu; rfl
  case c3 => unfold maxLen; omega
  case c4 => omega
  case c5 => simp; omega
  intro v' w2 hown' hgrow _
  have hb2 : w2.heap[b]? = some (.cells #[.pointer (some ⟨b, 0, none⟩), v] 115 (0, 0)) := by
    rw [hgrow.block b (by simp; omega) (fun e => hne e.symm), Lib.alloc_old w1 _ b hlt]
    exact hbk
  have d0 : w2.cell? ⟨b, 0, none⟩ = some (.pointer (some ⟨b, 0, none⟩)) := by rw [Lib.cell_of_heap hb2]; rfl
  have d1 : w2.cell? ⟨b, 1, none⟩ = some v := by rw [Lib.cell_of_heap hb2]; rfl
  have f1 : w2.frozen? ⟨b, 1, none⟩ = false := Lib.frozen_of_heap hb2 1
  obtain ⟨g, cap, rfl⟩ : ∃ g cap, v' = .slice (some ⟨g, 0, none⟩) (l.length + 1) cap := by
    rcases hown'.2 with ⟨_, h0⟩ | ⟨g, cap, cur, hv, _⟩
    · omega
    · exact ⟨g, cap, hv⟩
  have hlist : Lib.byteCells (l ++ [c]) = Lib.byteCells l ++ [.int .u8 (c.toNat : Int)] := by rw [Lib.byteCells_append]; rfl
  go_wp2
  go_ret
  refine ⟨rfl, ?_, ?_⟩
  · unfold BAt
    rw [hlist]
    exact Lib.BuilderAt.put (T := 115) (e := 5) hB hb2 (by simpa [hle] using hown') (by decide)
  · exact (((Below.refl B w1).alloc (by omega) _).grown hgrow (by simp; omega) (fun k hk => (hown.lt k hk).1)).setCell (p := ⟨b, 1, none⟩) hB _

set_option maxHeartbeats 2000000 in
set_option maxRecDepth 100000 in
theorem Write_any (B b ab ao n cp : Nat) (l k : List UInt8) (w : World) (h : BAt B b l w) (hn : k.length = n) (h0 : 0 < n) (hr : RdAt w ab ao k) (hlen : l.length + n ≤ 140737488355328) (hBw : B ≤ w.heap.size) :
    Calls Tryz.prog 72 #[.pointer (some ⟨b, 0, none⟩), .slice (some ⟨ab, ao, none⟩) n cp] w fun e w' => e = .returned (.tuple #[.int .i64 n, .nilIface]) ∧ BAt B b (l ++ k) w' ∧ Below B w w' := by
  obtain ⟨i0, hi, hi3⟩ := Option.map_eq_some_iff.1 infoByte
  obtain ⟨hz0, hz12⟩ := Prod.mk.inj hi3
  obtain ⟨hz1, hz2⟩ := Prod.mk.inj hz12
  have C := Lib.hid (copyCheck_used b w h.cell0)
  have hlt := bAt_lt h
  have hle := Lib.byteCells_length l
  have hlk := Lib.byteCells_length k
  obtain ⟨hB, v, hbk, hown, hne⟩ := h
  have c0 : w.cell? ⟨b, 0, none⟩ = some (.pointer (some ⟨b, 0, none⟩)) := by rw [Lib.cell_of_heap hbk]; rfl
  have c1 : w.cell? ⟨b, 1, none⟩ = some v := by rw [Lib.cell_of_heap hbk]; rfl
  rw [hle] at hown
  go_enter Tryz.func72, Tryz.ntmps72
  go_wp2_with fail
  refine C.out.mono ?_
  rintro e w1 ⟨rfl, rfl⟩
  go_wp2_with (at_builtin; refine wpList_append_own _ rfl _ _ 22 rfl B 5 i0 (.int .u8 0) 1 1 Tryz.underlying22 hi hz0 hz1 hz2 rfl (by decide) _ _ _ rfl hown ⟨ab, ao, none⟩ n cp (Lib.byteCells k) rfl (by rw [hlk]; omega) ?c1 ?c2 ?c3 ?c4 ?c5 ?_)
  case c1 =>
    intro j u hj
    unfold Lib.byteCells at hj
    rw [List.getElem?_map] at hj
    obtain ⟨x, hx, rfl⟩ := Option.map_eq_some_iff.1 hj
    have h := hr j x hx
    by_cases hj0 : j = 0
    · subst hj0; simpa [Addr.add] using h
    · simpa [Addr.add, hj0] using h
  case c2 => intro u hu; unfold Lib.byteCells at hu; obtain ⟨x, _, rfl⟩ := List.mem_map.1 hu; rfl
  case c3 => unfold maxLen; omega
  case c4 => omega
  case c5 => exact hBw
  intro v' w2 hown' hgrow _
  have hb2 : w2.heap[b]? = some (.cells #[.pointer (some ⟨b, 0, none⟩), v] 115 (0, 0)) := by
    rw [hgrow.block b (by omega) (fun e => hne e.symm)]
    exact hbk
  have d0 : w2.cell? ⟨b, 0, none⟩ = some (.pointer (some ⟨b, 0, none⟩)) := by rw [Lib.cell_of_heap hb2]; rfl
  have d1 : w2.cell? ⟨b, 1, none⟩ = some v := by rw [Lib.cell_of_heap hb2]; rfl
  have f1 : w2.frozen? ⟨b, 1, none⟩ = false := Lib.frozen_of_heap hb2 1
  obtain ⟨g, cap, rfl⟩ : ∃ g cap, v' = .slice (some ⟨g, 0, none⟩) (l.length + n) cap := by
    rcases hown'.2 with ⟨_, h0⟩ | ⟨g, cap, cur, hv, _⟩
    · omega
    · exact ⟨g, cap, hv⟩
  go_wp2
  go_ret2
  refine ⟨rfl, ?_, ?_⟩
  · unfold BAt
    rw [Lib.byteCells_append]
    exact Lib.BuilderAt.put (T := 115) (e := 5) hB hb2 (by simpa [hle, hlk, hn] using hown') (by decide)
  · exact ((Below.refl B w1).grown hgrow hBw (fun k hk => (hown.lt k hk).1)).setCell (p := ⟨b, 1, none⟩) hB _

end Go.Proofs.YtilngifollpoeaaGreatFmt
