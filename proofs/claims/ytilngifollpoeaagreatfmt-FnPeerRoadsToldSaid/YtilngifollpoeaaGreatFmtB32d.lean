/- base32: decode, of letters that Encode wrote, in place. -/
import Derived.Test.YtilngifollpoeaaGreatFmtB32d0
import Derived.Test.YtilngifollpoeaaGreatFmtB32d1
import Derived.Test.YtilngifollpoeaaGreatFmtB32d2
import Derived.Test.YtilngifollpoeaaGreatFmtB32d3
import Derived.Test.YtilngifollpoeaaGreatFmtB32d4
namespace Go.Proofs.YtilngifollpoeaaGreatFmt
open Go.RowKit
set_option linter.unusedSimpArgs false
set_option linter.unusedVariables false

theorem decode_any (s : ByteArray) (a l : List UInt8) (f : Nat → Int) (g D m c L : Nat) (w : World) (ha : a.length = 32)
    (hg : Blk w g 203 (encC s f (-1))) (hgD : g < D) (hDw : D < w.heap.size) (hL : l.length = L) (hL1 : L ≤ 1099511627776)
    (hD : Row w D m (elF a l)) (hm : m = (L * 8 + 4) / 5) (hmc : m ≤ c)
    (hf : ∀ q, q < 32 → (a.getD q 0).toNat < 128 ∧ f (a.getD q 0).toNat = q) :
    Calls Tryz.prog 165 #[.pointer (some ⟨g, 0, none⟩), .slice (some ⟨D, 0, none⟩) m c, .slice (some ⟨D, 0, none⟩) m c] w fun e w' => e = .returned (.tuple #[.int .i64 L, .bool false, .nilIface]) ∧ Row w' D m (outF a l L) ∧ Below D w w' := by
  rcases (show L % 5 = 0 ∨ L % 5 = 1 ∨ L % 5 = 2 ∨ L % 5 = 3 ∨ L % 5 = 4 by omega) with h | h | h | h | h
  · exact decode_r0 s a l f g D m c L w ha hg hgD hDw hL hL1 hD hm hmc h hf
  · exact decode_r1 s a l f g D m c L w ha hg hgD hDw hL hL1 hD hm hmc h hf
  · exact decode_r2 s a l f g D m c L w ha hg hgD hDw hL hL1 hD hm hmc h hf
  · exact decode_r3 s a l f g D m c L w ha hg hgD hDw hL hL1 hD hm hmc h hf
  · exact decode_r4 s a l f g D m c L w ha hg hgD hDw hL hL1 hD hm hmc h hf
end Go.Proofs.YtilngifollpoeaaGreatFmt
