/- base32: the letters and how far the bytes are written over them. -/
import Derived.Test.YtilngifollpoeaaGreatFmtB32b
import Derived.Test.YtilngifollpoeaaGreatFmtBase
import Derived.Lib.VarintBits
namespace Go.Proofs.YtilngifollpoeaaGreatFmt
open Go.RowKit
set_option linter.unusedSimpArgs false

/-- The letters; how far the bytes are written. -/
def outF (a l : List UInt8) (k i : Nat) : Nat := if i < k then (l.getD i 0).toNat else elF a l i

theorem Qf_lt (l : List UInt8) (i : Nat) : Qf l i < 32 := by
  unfold Qf
  rw [List.getD_eq_getElem?_getD]
  by_cases h : i < (e32 (l.map (·.toNat))).length
  · rw [List.getElem?_eq_getElem h]
    refine e32_lt _ (fun x hx => ?_) _ (List.getElem_mem h)
    obtain ⟨y, _, rfl⟩ := List.mem_map.1 hx
    exact y.toNat_lt
  · rw [List.getElem?_eq_none (by omega)]
    decide

end Go.Proofs.YtilngifollpoeaaGreatFmt
