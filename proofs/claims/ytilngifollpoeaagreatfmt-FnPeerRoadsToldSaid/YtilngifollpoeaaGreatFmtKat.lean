/- The table of SHA2-256 holds 64 numbers, whatever they are: by the world's shape. -/
import Derived.Test.YtilngifollpoeaaGreatFmtPid
namespace Go.Proofs.YtilngifollpoeaaGreatFmt
open Go.RowKit

theorem kRow : ((begin Tryz.prog (fun _ _ => 0) default).world.heap[25]?).bind Obj.row? = some (Array.replicate 64 (.int .u32 0), 290) := by kernel_rfl
theorem kTypes : Tryz.prog.cellTypes Tryz.prog.depth 290 = some (List.replicate 64 183) := by kernel_rfl
theorem kThere : 25 < Tryz.prog.globals.size := of_decide_eq_true (by kernel_rfl)
theorem kBuilt : Tryz.prog.buildable 290 = true := by kernel_rfl

/-- The number of a cell, if it holds one. -/
def numAt (cs : Array Value) (i : Nat) : Int := match cs[i]? with
  | some (.int _ n) => n
  | _ => 0

set_option maxRecDepth 100000 in
theorem kat_of_shape {W : World} (h : W.ShapedOpen Tryz.prog) : ∃ kf, KAt W kf := by
  obtain ⟨cs, hh, hs, hr⟩ := h.1 25 _ _ kThere kRow
  obtain ⟨ts, hts, _, hall⟩ := hr kBuilt
  rw [kTypes] at hts
  cases hts
  have hs' : cs.size = 64 := by rw [hs]; simp
  refine ⟨numAt cs, fun i hi => ?_⟩
  have h1 : i < cs.size := by omega
  obtain ⟨u, hu, hok⟩ := hall i cs[i] (by simp [h1])
  have hu' : u = 183 := by
    rw [List.length_replicate, List.getElem?_replicate] at hu
    split at hu
    · exact (Option.some.inj hu).symm
    · cases hu
  subst hu'
  have hcell : W.cell? ⟨25, i, none⟩ = cs[i]? := cell_of_row W _ i cs _ (0, 0) hh
  have hget : cs[i]? = some cs[i] := Array.getElem?_eq_getElem h1
  clear hall hr hh hs hs' hu
  rw [hcell]
  unfold numAt
  generalize cs[i] = v at hget hok
  rw [hget]
  unfold Cell.ok at hok
  rw [Tryz.underlying183] at hok
  cases v with
  | int k n =>
    obtain ⟨hk, _⟩ := hok
    rw [hk]
  | _ => exact hok.elim
end Go.Proofs.YtilngifollpoeaaGreatFmt
