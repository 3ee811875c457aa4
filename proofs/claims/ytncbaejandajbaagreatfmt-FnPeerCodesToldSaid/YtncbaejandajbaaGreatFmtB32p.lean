/- Quintets and letters: plain laws. -/
import Derived.Test.YtncbaejandajbaaGreatFmtPure
namespace Go.Proofs.YtncbaejandajbaaGreatFmt

theorem e32_drop : ∀ (k : Nat) (l : List Nat), 5 * k ≤ l.length → (e32 l).drop (8 * k) = e32 (l.drop (5 * k))
  | 0, l, _ => rfl
  | k + 1, a :: b :: c :: d :: e :: r, h => by
    have ih := e32_drop k r (by simp at h; omega)
    rw [show 8 * (k + 1) = 8 * k + 8 from by omega, show 5 * (k + 1) = 5 * k + 5 from by omega]
    exact ih
  | k + 1, [], h => by simp at h
  | k + 1, [_], h => by simp at h; omega
  | k + 1, [_, _], h => by simp at h; omega
  | k + 1, [_, _, _], h => by simp at h; omega
  | k + 1, [_, _, _, _], h => by simp at h; omega

/-- The letters of the quintets. -/
def elF (a l : List UInt8) (i : Nat) : Nat := (a.getD ((e32 (l.map (·.toNat))).getD i 0) 0).toNat

theorem elF_at (a l : List UInt8) (k j q : Nat) (y : UInt8) (hk : 5 * k ≤ l.length) (hq : (e32 ((l.drop (5 * k)).map (·.toNat)))[j]? = some q) (hy : a[q]? = some y) : elF a l (8 * k + j) = y.toNat := by
  have h := e32_drop k (l.map (·.toNat)) (by simpa using hk)
  rw [← List.map_drop] at h
  have h2 : (e32 (l.map (·.toNat)))[8 * k + j]? = some q := by
    rw [← List.getElem?_drop, h]
    exact hq
  unfold elF
  rw [List.getD_eq_getElem?_getD, List.getD_eq_getElem?_getD, h2]
  simp [hy]

theorem drop_of_get {l : List UInt8} {i : Nat} {x : UInt8} (h : l[i]? = some x) : l.drop i = x :: l.drop (i + 1) := by
  obtain ⟨hi, rfl⟩ := List.getElem?_eq_some_iff.1 h
  exact List.drop_eq_getElem_cons hi

theorem drop5 {l : List UInt8} {k : Nat} {x0 x1 x2 x3 x4 : UInt8} (h0 : l[5 * k]? = some x0) (h1 : l[5 * k + 1]? = some x1) (h2 : l[5 * k + 2]? = some x2) (h3 : l[5 * k + 3]? = some x3) (h4 : l[5 * k + 4]? = some x4) :
    l.drop (5 * k) = x0 :: x1 :: x2 :: x3 :: x4 :: l.drop (5 * k + 5) := by
  rw [drop_of_get h0, drop_of_get h1, drop_of_get h2, drop_of_get h3, drop_of_get h4]

def updF (F : Nat → Nat) (i v : Nat) : Nat → Nat := fun j => if j = i then v else F j

theorem drop1 {l : List UInt8} {k : Nat} {x0 : UInt8} (h0 : l[5 * k]? = some x0) (hl : l.length ≤ 5 * k + 1) :
    l.drop (5 * k) = [x0] := by
  rw [drop_of_get h0, List.drop_eq_nil_of_le (by omega)]

theorem drop2 {l : List UInt8} {k : Nat} {x0 x1 : UInt8} (h0 : l[5 * k]? = some x0) (h1 : l[5 * k + 1]? = some x1) (hl : l.length ≤ 5 * k + 2) :
    l.drop (5 * k) = [x0, x1] := by
  rw [drop_of_get h0, drop_of_get h1, List.drop_eq_nil_of_le (by omega)]

theorem drop3 {l : List UInt8} {k : Nat} {x0 x1 x2 : UInt8} (h0 : l[5 * k]? = some x0) (h1 : l[5 * k + 1]? = some x1) (h2 : l[5 * k + 2]? = some x2) (hl : l.length ≤ 5 * k + 3) :
    l.drop (5 * k) = [x0, x1, x2] := by
  rw [drop_of_get h0, drop_of_get h1, drop_of_get h2, List.drop_eq_nil_of_le (by omega)]

theorem drop4 {l : List UInt8} {k : Nat} {x0 x1 x2 x3 : UInt8} (h0 : l[5 * k]? = some x0) (h1 : l[5 * k + 1]? = some x1) (h2 : l[5 * k + 2]? = some x2) (h3 : l[5 * k + 3]? = some x3) (hl : l.length ≤ 5 * k + 4) :
    l.drop (5 * k) = [x0, x1, x2, x3] := by
  rw [drop_of_get h0, drop_of_get h1, drop_of_get h2, drop_of_get h3, List.drop_eq_nil_of_le (by omega)]

theorem upd8 (E : Nat → Nat) (k y0 y1 y2 y3 y4 y5 y6 y7 : Nat) (e0 : E (8 * k) = y0) (e1 : E (8 * k + 1) = y1) (e2 : E (8 * k + 2) = y2) (e3 : E (8 * k + 3) = y3) (e4 : E (8 * k + 4) = y4) (e5 : E (8 * k + 5) = y5) (e6 : E (8 * k + 6) = y6) (e7 : E (8 * k + 7) = y7) (i : Nat) :
    (if i = 8 * k then y0 else if i = 8 * k + 1 then y1 else if i = 8 * k + 2 then y2 else if i = 8 * k + 3 then y3 else if i = 8 * k + 4 then y4 else if i = 8 * k + 5 then y5 else if i = 8 * k + 6 then y6 else if i = 8 * k + 7 then y7 else if i < 8 * k then E i else 0) = if i < 8 * (k + 1) then E i else 0 := by
  by_cases h0 : i = 8 * k
  · subst h0
    rw [if_pos rfl, if_pos (by omega), e0]
  rw [if_neg h0]
  by_cases h1 : i = 8 * k + 1
  · subst h1
    rw [if_pos rfl, if_pos (by omega), e1]
  rw [if_neg h1]
  by_cases h2 : i = 8 * k + 2
  · subst h2
    rw [if_pos rfl, if_pos (by omega), e2]
  rw [if_neg h2]
  by_cases h3 : i = 8 * k + 3
  · subst h3
    rw [if_pos rfl, if_pos (by omega), e3]
  rw [if_neg h3]
  by_cases h4 : i = 8 * k + 4
  · subst h4
    rw [if_pos rfl, if_pos (by omega), e4]
  rw [if_neg h4]
  by_cases h5 : i = 8 * k + 5
  · subst h5
    rw [if_pos rfl, if_pos (by omega), e5]
  rw [if_neg h5]
  by_cases h6 : i = 8 * k + 6
  · subst h6
    rw [if_pos rfl, if_pos (by omega), e6]
  rw [if_neg h6]
  by_cases h7 : i = 8 * k + 7
  · subst h7
    rw [if_pos rfl, if_pos (by omega), e7]
  rw [if_neg h7]
  by_cases h : i < 8 * k
  · rw [if_pos h, if_pos (by omega)]
  · rw [if_neg h, if_neg (by omega)]

theorem upd7 (E : Nat → Nat) (k y0 y1 y2 y3 y4 y5 y6 : Nat) (e0 : E (8 * k) = y0) (e1 : E (8 * k + 1) = y1) (e2 : E (8 * k + 2) = y2) (e3 : E (8 * k + 3) = y3) (e4 : E (8 * k + 4) = y4) (e5 : E (8 * k + 5) = y5) (e6 : E (8 * k + 6) = y6) (i : Nat) (hi : i < 8 * k + 7) :
    (if i = 8 * k then y0 else if i = 8 * k + 1 then y1 else if i = 8 * k + 2 then y2 else if i = 8 * k + 3 then y3 else if i = 8 * k + 4 then y4 else if i = 8 * k + 5 then y5 else if i = 8 * k + 6 then y6 else if i < 8 * k then E i else 0) = E i := by
  by_cases h0 : i = 8 * k
  · subst h0
    rw [if_pos rfl, e0]
  rw [if_neg h0]
  by_cases h1 : i = 8 * k + 1
  · subst h1
    rw [if_pos rfl, e1]
  rw [if_neg h1]
  by_cases h2 : i = 8 * k + 2
  · subst h2
    rw [if_pos rfl, e2]
  rw [if_neg h2]
  by_cases h3 : i = 8 * k + 3
  · subst h3
    rw [if_pos rfl, e3]
  rw [if_neg h3]
  by_cases h4 : i = 8 * k + 4
  · subst h4
    rw [if_pos rfl, e4]
  rw [if_neg h4]
  by_cases h5 : i = 8 * k + 5
  · subst h5
    rw [if_pos rfl, e5]
  rw [if_neg h5]
  by_cases h6 : i = 8 * k + 6
  · subst h6
    rw [if_pos rfl, e6]
  rw [if_neg h6]
  rw [if_pos (by omega)]

theorem upd5 (E : Nat → Nat) (k y0 y1 y2 y3 y4 : Nat) (e0 : E (8 * k) = y0) (e1 : E (8 * k + 1) = y1) (e2 : E (8 * k + 2) = y2) (e3 : E (8 * k + 3) = y3) (e4 : E (8 * k + 4) = y4) (i : Nat) (hi : i < 8 * k + 5) :
    (if i = 8 * k then y0 else if i = 8 * k + 1 then y1 else if i = 8 * k + 2 then y2 else if i = 8 * k + 3 then y3 else if i = 8 * k + 4 then y4 else if i < 8 * k then E i else 0) = E i := by
  by_cases h0 : i = 8 * k
  · subst h0
    rw [if_pos rfl, e0]
  rw [if_neg h0]
  by_cases h1 : i = 8 * k + 1
  · subst h1
    rw [if_pos rfl, e1]
  rw [if_neg h1]
  by_cases h2 : i = 8 * k + 2
  · subst h2
    rw [if_pos rfl, e2]
  rw [if_neg h2]
  by_cases h3 : i = 8 * k + 3
  · subst h3
    rw [if_pos rfl, e3]
  rw [if_neg h3]
  by_cases h4 : i = 8 * k + 4
  · subst h4
    rw [if_pos rfl, e4]
  rw [if_neg h4]
  rw [if_pos (by omega)]

theorem upd4 (E : Nat → Nat) (k y0 y1 y2 y3 : Nat) (e0 : E (8 * k) = y0) (e1 : E (8 * k + 1) = y1) (e2 : E (8 * k + 2) = y2) (e3 : E (8 * k + 3) = y3) (i : Nat) (hi : i < 8 * k + 4) :
    (if i = 8 * k then y0 else if i = 8 * k + 1 then y1 else if i = 8 * k + 2 then y2 else if i = 8 * k + 3 then y3 else if i < 8 * k then E i else 0) = E i := by
  by_cases h0 : i = 8 * k
  · subst h0
    rw [if_pos rfl, e0]
  rw [if_neg h0]
  by_cases h1 : i = 8 * k + 1
  · subst h1
    rw [if_pos rfl, e1]
  rw [if_neg h1]
  by_cases h2 : i = 8 * k + 2
  · subst h2
    rw [if_pos rfl, e2]
  rw [if_neg h2]
  by_cases h3 : i = 8 * k + 3
  · subst h3
    rw [if_pos rfl, e3]
  rw [if_neg h3]
  rw [if_pos (by omega)]

theorem upd2 (E : Nat → Nat) (k y0 y1 : Nat) (e0 : E (8 * k) = y0) (e1 : E (8 * k + 1) = y1) (i : Nat) (hi : i < 8 * k + 2) :
    (if i = 8 * k then y0 else if i = 8 * k + 1 then y1 else if i < 8 * k then E i else 0) = E i := by
  by_cases h0 : i = 8 * k
  · subst h0
    rw [if_pos rfl, e0]
  rw [if_neg h0]
  by_cases h1 : i = 8 * k + 1
  · subst h1
    rw [if_pos rfl, e1]
  rw [if_neg h1]
  rw [if_pos (by omega)]

end Go.Proofs.YtncbaejandajbaaGreatFmt
