/- bytes.Equal of like bytes. -/
import Derived.Test.YtilngifollpoeaaGreatFmtOwn
import Derived.Test.YtilngifollpoeaaGreatFmtShelf
namespace Go.Proofs.YtilngifollpoeaaGreatFmt
open Go.RowKit

theorem Rd.bytesIn {w : World} {B : Nat} {v : Value} {l : List UInt8} (h : Rd w B v l) : ∃ p c, v = .slice p l.length c ∧ Lib.BytesIn w p l.length (l.map fun x => (x.toNat : Int)) := by
  obtain ⟨b, o, c, rfl, hb, hlc, hcm, hat⟩ := h
  refine ⟨_, c, rfl, fun _ => ⟨b, o, rfl, fun i hi => ?_⟩⟩
  rw [hat.at_ hi, List.getD_eq_getElem?_getD, List.getElem?_map, List.getElem?_eq_getElem hi]
  rfl

theorem Equal_any (v v' : Value) (l : List UInt8) (w : World) (h : Rd w w.heap.size v l) (h' : Rd w w.heap.size v' l) :
    Calls Tryz.prog 17 #[v, v'] w fun e w' => e = .returned (.bool true) ∧ w' = w := by
  obtain ⟨p, c, rfl, hp⟩ := h.bytesIn
  obtain ⟨q, d, rfl, hq⟩ := h'.bytesIn
  refine (Tryz.bytes_Equal_all p q l.length c l.length d _ _ w (by simp) (by simp) hp hq).mono ?_
  rintro e w' ⟨rfl, rfl⟩
  exact ⟨by simp, rfl⟩
end Go.Proofs.YtilngifollpoeaaGreatFmt
