/- Small sums of bytes; the length of a slice value. -/
import Derived.Lib.VarintBits
import Derived.WalkKit
namespace Go.Proofs.YtncbaejandajbaaGreatFmt

/-- The length of a slice value. -/
def sLen : Value → Nat
  | .slice _ n _ => n
  | _ => 0

theorem u8w (x : Int) : IntKind.u8.wrap x = x % 256 := by simp [IntKind.wrap, IntKind.bits, IntKind.signed]
section
variable {x y : Int}
theorem u8a31 (h0 : 0 ≤ x) (h1 : x < 256) : bits .and .u8 x 31 = x % 32 := bits_mask .u8 8 (by decide) wraps_u8 5 (by decide) x h0 h1
theorem u8lo1 (hy₀ : 0 ≤ y) (hy : y < 2) (hx₀ : 0 ≤ x) (hx : x % 2 = 0) (hx₁ : x < 256) : bits .or .u8 y x = y + x := bits_join_low .u8 8 (by decide) wraps_u8 1 y x hy₀ hy (by omega) hx₀ hx hx₁
theorem u8ho1 (hx₀ : 0 ≤ x) (hx : x % 2 = 0) (hx₁ : x < 256) (hy₀ : 0 ≤ y) (hy : y < 2) : bits .or .u8 x y = x + y := bits_join .u8 8 (by decide) wraps_u8 1 x y hx₀ hx hx₁ hy₀ hy (by omega)
theorem u8lo2 (hy₀ : 0 ≤ y) (hy : y < 4) (hx₀ : 0 ≤ x) (hx : x % 4 = 0) (hx₁ : x < 256) : bits .or .u8 y x = y + x := bits_join_low .u8 8 (by decide) wraps_u8 2 y x hy₀ hy (by omega) hx₀ hx hx₁
theorem u8ho2 (hx₀ : 0 ≤ x) (hx : x % 4 = 0) (hx₁ : x < 256) (hy₀ : 0 ≤ y) (hy : y < 4) : bits .or .u8 x y = x + y := bits_join .u8 8 (by decide) wraps_u8 2 x y hx₀ hx hx₁ hy₀ hy (by omega)
theorem u8lo3 (hy₀ : 0 ≤ y) (hy : y < 8) (hx₀ : 0 ≤ x) (hx : x % 8 = 0) (hx₁ : x < 256) : bits .or .u8 y x = y + x := bits_join_low .u8 8 (by decide) wraps_u8 3 y x hy₀ hy (by omega) hx₀ hx hx₁
theorem u8ho3 (hx₀ : 0 ≤ x) (hx : x % 8 = 0) (hx₁ : x < 256) (hy₀ : 0 ≤ y) (hy : y < 8) : bits .or .u8 x y = x + y := bits_join .u8 8 (by decide) wraps_u8 3 x y hx₀ hx hx₁ hy₀ hy (by omega)
theorem u8lo4 (hy₀ : 0 ≤ y) (hy : y < 16) (hx₀ : 0 ≤ x) (hx : x % 16 = 0) (hx₁ : x < 256) : bits .or .u8 y x = y + x := bits_join_low .u8 8 (by decide) wraps_u8 4 y x hy₀ hy (by omega) hx₀ hx hx₁
theorem u8ho4 (hx₀ : 0 ≤ x) (hx : x % 16 = 0) (hx₁ : x < 256) (hy₀ : 0 ≤ y) (hy : y < 16) : bits .or .u8 x y = x + y := bits_join .u8 8 (by decide) wraps_u8 4 x y hx₀ hx hx₁ hy₀ hy (by omega)
theorem u8lo5 (hy₀ : 0 ≤ y) (hy : y < 32) (hx₀ : 0 ≤ x) (hx : x % 32 = 0) (hx₁ : x < 256) : bits .or .u8 y x = y + x := bits_join_low .u8 8 (by decide) wraps_u8 5 y x hy₀ hy (by omega) hx₀ hx hx₁
theorem u8ho5 (hx₀ : 0 ≤ x) (hx : x % 32 = 0) (hx₁ : x < 256) (hy₀ : 0 ≤ y) (hy : y < 32) : bits .or .u8 x y = x + y := bits_join .u8 8 (by decide) wraps_u8 5 x y hx₀ hx hx₁ hy₀ hy (by omega)
theorem u8lo6 (hy₀ : 0 ≤ y) (hy : y < 64) (hx₀ : 0 ≤ x) (hx : x % 64 = 0) (hx₁ : x < 256) : bits .or .u8 y x = y + x := bits_join_low .u8 8 (by decide) wraps_u8 6 y x hy₀ hy (by omega) hx₀ hx hx₁
theorem u8ho6 (hx₀ : 0 ≤ x) (hx : x % 64 = 0) (hx₁ : x < 256) (hy₀ : 0 ≤ y) (hy : y < 64) : bits .or .u8 x y = x + y := bits_join .u8 8 (by decide) wraps_u8 6 x y hx₀ hx hx₁ hy₀ hy (by omega)
theorem u8lo7 (hy₀ : 0 ≤ y) (hy : y < 128) (hx₀ : 0 ≤ x) (hx : x % 128 = 0) (hx₁ : x < 256) : bits .or .u8 y x = y + x := bits_join_low .u8 8 (by decide) wraps_u8 7 y x hy₀ hy (by omega) hx₀ hx hx₁
theorem u8ho7 (hx₀ : 0 ≤ x) (hx : x % 128 = 0) (hx₁ : x < 256) (hy₀ : 0 ≤ y) (hy : y < 128) : bits .or .u8 x y = x + y := bits_join .u8 8 (by decide) wraps_u8 7 x y hx₀ hx hx₁ hy₀ hy (by omega)
end
end Go.Proofs.YtncbaejandajbaaGreatFmt
