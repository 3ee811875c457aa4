/- Digits to the base 58 in a row: plain laws. -/
import Derived.Test.YtncbaejandajbaaGreatFmtPure
import Derived.Test.YtncbaejandajbaaGreatFmtB32p
namespace Go.Proofs.YtncbaejandajbaaGreatFmt

theorem Can.exists_ (n : Nat) : ∃ K, Can 58 K n := by
  induction n using Nat.strongRecOn with
  | _ n ih =>
    by_cases h0 : n = 0
    · exact ⟨0, .inl rfl, by subst h0; decide⟩
    · obtain ⟨K, hK⟩ := ih (n / 58) (by omega)
      refine ⟨K + 1, .inr ?_, ?_⟩
      · rw [Nat.add_sub_cancel]
        rcases hK.1 with h | h
        · subst h
          simp
          omega
        · by_cases hk : K = 0
          · subst hk; simp; omega
          · obtain ⟨k, rfl⟩ : ∃ k, K = k + 1 := ⟨K - 1, by omega⟩
            rw [Nat.add_sub_cancel] at h
            rw [Nat.pow_succ]
            have := Nat.div_mul_le_self n 58
            exact Nat.le_trans (Nat.mul_le_mul_right 58 h) this
      · rw [Nat.pow_succ]
        have := hK.2
        omega

theorem Can.le_of_lt {K S n : Nat} (h : Can 58 K n) (hn : n < 58 ^ S) : K ≤ S := by
  rcases h.1 with h0 | h0
  · omega
  · rcases Nat.lt_or_ge S K with h1 | h1
    · have : 58 ^ S ≤ 58 ^ (K - 1) := Nat.pow_le_pow_right (by decide) (by omega)
      omega
    · exact h1

theorem room58 (m : Nat) : 256 ^ m ≤ 58 ^ (m * 138 / 100 + 1) := by
  have key : (256 : Nat) ^ 100 ≤ 58 ^ 138 := by decide
  have h1 : (256 ^ m) ^ 100 ≤ (58 ^ (m * 138 / 100 + 1)) ^ 100 := by
    rw [← Nat.pow_mul, ← Nat.pow_mul, Nat.mul_comm m 100, Nat.pow_mul]
    refine Nat.le_trans (Nat.pow_le_pow_left key m) ?_
    rw [← Nat.pow_mul]
    exact Nat.pow_le_pow_right (by decide) (by omega)
  rcases Nat.lt_or_ge (58 ^ (m * 138 / 100 + 1)) (256 ^ m) with h | h
  · exact absurd h1 (Nat.not_le.2 (Nat.pow_lt_pow_left h (by decide)))
  · exact h

theorem bnum_drop_lz (l : List UInt8) (i : Nat) (hi : lz l ≤ i) (hl : i ≤ l.length) : bnum (l.take i) < 256 ^ (i - lz l) := by
  have key : ∀ (l : List UInt8) (i : Nat), lz l ≤ i → i ≤ l.length → bnum (l.take i) < 256 ^ (i - lz l) := by
    intro l
    induction l with
    | nil => intro i _ h; simp at h; subst h; decide
    | cons x r ih =>
      intro i h1 h2
      match i, h1, h2 with
      | 0, h1, h2 => simp [bnum, num]
      | i + 1, h1, h2 =>
        by_cases hx : x = 0
        · subst hx
          have e1 : bnum ((0 :: r).take (i + 1)) = bnum (r.take i) := by
            unfold bnum num
            simp
          have e2 : lz (0 :: r) = lz r + 1 := by simp [lz]
          rw [e1, e2, show i + 1 - (lz r + 1) = i - lz r from by omega]
          exact ih i (by rw [e2] at h1; omega) (by simpa using h2)
        · have e2 : lz (x :: r) = 0 := by unfold lz; rw [if_neg hx]
          rw [e2, Nat.sub_zero]
          have h := bnum_lt ((x :: r).take (i + 1))
          rw [List.length_take, Nat.min_eq_left h2] at h
          exact h
  exact key l i hi hl

/-- The digits of N, the last t of them those of M. -/
def mxF (S N M t p : Nat) : Nat := if p + t < S then N / 58 ^ (S - 1 - p) % 58 else M / 58 ^ (S - 1 - p) % 58
/-- .. behind z other cells. -/
def Gd (z S N M t i : Nat) : Nat := if i < z then 0 else mxF S N M t (i - z)

theorem Gd_zero (z S i : Nat) : Gd z S 0 0 0 i = 0 := by
  unfold Gd mxF
  split
  · rfl
  · split <;> simp
theorem Gd_at (z S N M t : Nat) (h : t < S) : Gd z S N M t (z + (S - 1 - t)) = N / 58 ^ t % 58 := by
  unfold Gd mxF
  rw [if_neg (by omega), Nat.add_sub_cancel_left, if_pos (by omega), show S - 1 - (S - 1 - t) = t from by omega]
theorem Gd_set (z S N M t i : Nat) (h : t < S) (hi : i < z + S) : updF (Gd z S N M t) (z + (S - 1 - t)) (M / 58 ^ t % 58) i = Gd z S N M (t + 1) i := by
  unfold updF Gd mxF
  by_cases h1 : i = z + (S - 1 - t)
  · subst h1
    rw [if_pos rfl, if_neg (by omega), Nat.add_sub_cancel_left, if_neg (by omega), show S - 1 - (S - 1 - t) = t from by omega]
  · rw [if_neg h1]
    by_cases h2 : i < z
    · rw [if_pos h2, if_pos h2]
    · rw [if_neg h2, if_neg h2]
      by_cases h3 : i - z + t < S
      · rw [if_pos h3, if_pos (by omega)]
      · rw [if_neg h3, if_neg (by omega)]
theorem Gd_end (z S N M t i : Nat) (hN : N < 58 ^ t) (hM : M < 58 ^ t) (_hi : i < z + S) : Gd z S N M t i = Gd z S M M 0 i := by
  unfold Gd mxF
  by_cases h2 : i < z
  · rw [if_pos h2, if_pos h2]
  · rw [if_neg h2, if_neg h2]
    by_cases h3 : i - z + t < S
    · have hp : (58 : Nat) ^ t ≤ 58 ^ (S - 1 - (i - z)) := Nat.pow_le_pow_right (by decide) (by omega)
      rw [if_pos h3, if_pos (by omega), Nat.div_eq_of_lt (by omega), Nat.div_eq_of_lt (by omega)]
    · rw [if_neg h3]
      split <;> rfl
theorem Gd_same (z S N i : Nat) (hi : z ≤ i) (_h2 : i < z + S) : Gd z S N N 0 i = N / 58 ^ (S - 1 - (i - z)) % 58 := by
  unfold Gd mxF
  rw [if_neg (by omega)]
  split <;> rfl

end Go.Proofs.YtncbaejandajbaaGreatFmt
