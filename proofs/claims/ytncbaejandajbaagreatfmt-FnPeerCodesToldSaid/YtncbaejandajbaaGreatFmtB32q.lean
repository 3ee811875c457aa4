/- The quintets of a part of the bytes. -/
import Derived.Test.YtncbaejandajbaaGreatFmtB32p
namespace Go.Proofs.YtncbaejandajbaaGreatFmt

/-- The quintet i. -/
def Qf (l : List UInt8) (i : Nat) : Nat := (e32 (l.map (·.toNat))).getD i 0

theorem Qf_at {l : List UInt8} {k j q : Nat} (hk : 5 * k ≤ l.length) (h : (e32 ((l.drop (5 * k)).map (·.toNat)))[j]? = some q) : Qf l (8 * k + j) = q := by
  have h3 := e32_drop k (l.map (·.toNat)) (by simpa using hk)
  rw [← List.map_drop] at h3
  unfold Qf
  rw [List.getD_eq_getElem?_getD, ← List.getElem?_drop, h3, h]
  rfl

theorem get_of_getD {l : List UInt8} {i : Nat} (h : i < l.length) : l[i]? = some (l.getD i 0) := by
  rw [List.getD_eq_getElem?_getD, List.getElem?_eq_getElem h]
  rfl

theorem Qf2 {l : List UInt8} {k x0 : Nat} (hl : l.length = 5 * k + 1) (h0 : x0 = (l.getD (5 * k) 0).toNat) : Qf l (8 * k) = x0 / 8 ∧ Qf l (8 * k + 1) = x0 % 8 * 4 := by
  subst h0
  have hd := drop1 (get_of_getD (l := l) (i := 5 * k) (by omega)) (by omega)
  refine ⟨Qf_at (j := 0) (by omega) ?_, Qf_at (j := 1) (by omega) ?_⟩ <;> (rw [hd]; rfl)

theorem Qf4 {l : List UInt8} {k x0 x1 : Nat} (hl : l.length = 5 * k + 2) (h0 : x0 = (l.getD (5 * k) 0).toNat) (h1 : x1 = (l.getD (5 * k + 1) 0).toNat) : Qf l (8 * k) = x0 / 8 ∧ Qf l (8 * k + 1) = x0 % 8 * 4 + x1 / 64 ∧ Qf l (8 * k + 2) = x1 / 2 % 32 ∧ Qf l (8 * k + 3) = x1 % 2 * 16 := by
  subst h0
  subst h1
  have hd := drop2 (get_of_getD (l := l) (i := 5 * k) (by omega)) (get_of_getD (l := l) (i := 5 * k + 1) (by omega)) (by omega)
  refine ⟨Qf_at (j := 0) (by omega) ?_, Qf_at (j := 1) (by omega) ?_, Qf_at (j := 2) (by omega) ?_, Qf_at (j := 3) (by omega) ?_⟩ <;> (rw [hd]; rfl)

theorem Qf5 {l : List UInt8} {k x0 x1 x2 : Nat} (hl : l.length = 5 * k + 3) (h0 : x0 = (l.getD (5 * k) 0).toNat) (h1 : x1 = (l.getD (5 * k + 1) 0).toNat) (h2 : x2 = (l.getD (5 * k + 2) 0).toNat) : Qf l (8 * k) = x0 / 8 ∧ Qf l (8 * k + 1) = x0 % 8 * 4 + x1 / 64 ∧ Qf l (8 * k + 2) = x1 / 2 % 32 ∧ Qf l (8 * k + 3) = x1 % 2 * 16 + x2 / 16 ∧ Qf l (8 * k + 4) = x2 % 16 * 2 := by
  subst h0
  subst h1
  subst h2
  have hd := drop3 (get_of_getD (l := l) (i := 5 * k) (by omega)) (get_of_getD (l := l) (i := 5 * k + 1) (by omega)) (get_of_getD (l := l) (i := 5 * k + 2) (by omega)) (by omega)
  refine ⟨Qf_at (j := 0) (by omega) ?_, Qf_at (j := 1) (by omega) ?_, Qf_at (j := 2) (by omega) ?_, Qf_at (j := 3) (by omega) ?_, Qf_at (j := 4) (by omega) ?_⟩ <;> (rw [hd]; rfl)

theorem Qf7 {l : List UInt8} {k x0 x1 x2 x3 : Nat} (hl : l.length = 5 * k + 4) (h0 : x0 = (l.getD (5 * k) 0).toNat) (h1 : x1 = (l.getD (5 * k + 1) 0).toNat) (h2 : x2 = (l.getD (5 * k + 2) 0).toNat) (h3 : x3 = (l.getD (5 * k + 3) 0).toNat) : Qf l (8 * k) = x0 / 8 ∧ Qf l (8 * k + 1) = x0 % 8 * 4 + x1 / 64 ∧ Qf l (8 * k + 2) = x1 / 2 % 32 ∧ Qf l (8 * k + 3) = x1 % 2 * 16 + x2 / 16 ∧ Qf l (8 * k + 4) = x2 % 16 * 2 + x3 / 128 ∧ Qf l (8 * k + 5) = x3 / 4 % 32 ∧ Qf l (8 * k + 6) = x3 % 4 * 8 := by
  subst h0
  subst h1
  subst h2
  subst h3
  have hd := drop4 (get_of_getD (l := l) (i := 5 * k) (by omega)) (get_of_getD (l := l) (i := 5 * k + 1) (by omega)) (get_of_getD (l := l) (i := 5 * k + 2) (by omega)) (get_of_getD (l := l) (i := 5 * k + 3) (by omega)) (by omega)
  refine ⟨Qf_at (j := 0) (by omega) ?_, Qf_at (j := 1) (by omega) ?_, Qf_at (j := 2) (by omega) ?_, Qf_at (j := 3) (by omega) ?_, Qf_at (j := 4) (by omega) ?_, Qf_at (j := 5) (by omega) ?_, Qf_at (j := 6) (by omega) ?_⟩ <;> (rw [hd]; rfl)

theorem Qf8 {l : List UInt8} {k x0 x1 x2 x3 x4 : Nat} (hl : 5 * k + 5 ≤ l.length) (h0 : x0 = (l.getD (5 * k) 0).toNat) (h1 : x1 = (l.getD (5 * k + 1) 0).toNat) (h2 : x2 = (l.getD (5 * k + 2) 0).toNat) (h3 : x3 = (l.getD (5 * k + 3) 0).toNat) (h4 : x4 = (l.getD (5 * k + 4) 0).toNat) : Qf l (8 * k) = x0 / 8 ∧ Qf l (8 * k + 1) = x0 % 8 * 4 + x1 / 64 ∧ Qf l (8 * k + 2) = x1 / 2 % 32 ∧ Qf l (8 * k + 3) = x1 % 2 * 16 + x2 / 16 ∧ Qf l (8 * k + 4) = x2 % 16 * 2 + x3 / 128 ∧ Qf l (8 * k + 5) = x3 / 4 % 32 ∧ Qf l (8 * k + 6) = x3 % 4 * 8 + x4 / 32 ∧ Qf l (8 * k + 7) = x4 % 32 := by
  subst h0
  subst h1
  subst h2
  subst h3
  subst h4
  have hd := drop5 (get_of_getD (l := l) (i := 5 * k) (by omega)) (get_of_getD (l := l) (i := 5 * k + 1) (by omega)) (get_of_getD (l := l) (i := 5 * k + 2) (by omega)) (get_of_getD (l := l) (i := 5 * k + 3) (by omega)) (get_of_getD (l := l) (i := 5 * k + 4) (by omega))
  refine ⟨Qf_at (j := 0) (by omega) ?_, Qf_at (j := 1) (by omega) ?_, Qf_at (j := 2) (by omega) ?_, Qf_at (j := 3) (by omega) ?_, Qf_at (j := 4) (by omega) ?_, Qf_at (j := 5) (by omega) ?_, Qf_at (j := 6) (by omega) ?_, Qf_at (j := 7) (by omega) ?_⟩ <;> (rw [hd]; rfl)

end Go.Proofs.YtncbaejandajbaaGreatFmt
