/- Plain laws for the base58 of the specification: digits as a row of bytes. -/
import Derived.Test.YtilngifollpoeaaGreatFmtBase
namespace Go.Proofs.YtilngifollpoeaaGreatFmt
open Go.RowKit

theorem updF_set (l : List Nat) (j v i : Nat) (hj : j < l.length) : updF (fun i => l.getD i 0) j v i = (l.set j v).getD i 0 := by
  unfold updF
  rw [List.getD_eq_getElem?_getD, List.getElem?_set]
  by_cases e : i = j
  · subst e
    rw [if_pos rfl, if_pos rfl, if_pos hj]
    rfl
  · rw [if_neg e, if_neg (fun h => e h.symm)]
    exact List.getD_eq_getElem?_getD

/-- The digits of a number, as a row: at the place of the t-th from below. -/
theorem mix_getD (B k N M t : Nat) (h : t < k) : (mix B k N M t).getD (k - 1 - t) 0 = N / B ^ t % B := by
  rw [List.getD_eq_getElem?_getD, mix_at B k N M t h]
  rfl

/-- A row of bytes as cells. -/
def dcells (l : List Nat) : List Value := l.map fun d : Nat => Value.int .u8 (d : Int)

theorem dcells_len (l : List Nat) : (dcells l).length = l.length := by simp [dcells]

theorem Row.news {w : World} {g K : Nat} {l : List Nat} (h : Row w g K (fun i => l.getD i 0)) (hK : l.length = K) : ∀ j v, (dcells l)[j]? = some v → w.cell? ((⟨g, 0, none⟩ : Addr).add j) = some v := fun j v hj => by
  unfold dcells at hj
  rw [List.getElem?_map] at hj
  obtain ⟨d, hd, rfl⟩ := Option.map_eq_some_iff.1 hj
  have hjl := (List.getElem?_eq_some_iff.1 hd).1
  have e : (⟨g, 0, none⟩ : Addr).add j = ⟨g, j, none⟩ := by unfold Addr.add; split <;> simp_all
  rw [e, h.cell (by omega)]
  show some (Value.int .u8 ((l.getD j 0 : Nat) : Int)) = _
  rw [List.getD_eq_getElem?_getD, hd]
  rfl

/-- A block that begins with the cells of digits. -/
theorem Row.ofBlk {w : World} {g : Nat} {t : TypeId} {cs : Array Value} {l : List Nat} (h : Blk w g t cs) (hc : ∀ (i d : Nat), l[i]? = some d → cs[i]? = some (Value.int .u8 (d : Int))) : Row w g l.length (fun i => l.getD i 0) := fun i hi => by
  refine ⟨?_, h.frozen i⟩
  rw [h.cell, hc i l[i] (List.getElem?_eq_getElem hi)]
  show _ = some (Value.int .u8 ((l.getD i 0 : Nat) : Int))
  rw [List.getD_eq_getElem?_getD, List.getElem?_eq_getElem hi]
  rfl

/-- Behind the zeros: the digits that a number has, of which each step keeps just so many. -/
theorem Can.start : Can 58 0 0 := ⟨.inl rfl, by decide⟩

theorem Can.of {K t M : Nat} (h1 : K + t = 0 ∨ 58 ^ (K + t - 1) ≤ M) (h2 : M / 58 ^ (K + t) = 0) : Can 58 (K + t) M := by
  refine ⟨h1, ?_⟩
  rcases Nat.div_eq_zero_iff.1 h2 with h | h
  · exact absurd h (Nat.pos_iff_ne_zero.1 (Nat.pow_pos (by decide)))
  · exact h

theorem pow_le_of_div {K M : Nat} (h : 0 < M / 58 ^ K) : 58 ^ K ≤ M := by
  rcases Nat.lt_or_ge M (58 ^ K) with h2 | h2
  · rw [Nat.div_eq_of_lt h2] at h
    omega
  · exact h2

/-- How many digits a number of n bytes can have. -/
theorem digits_le {n K M : Nat} (hM : M < 256 ^ n) (h : K = 0 ∨ 58 ^ (K - 1) ≤ M) : K ≤ 2 * n + 2 := by
  have h1 := room58 n
  have h3 : n * 138 / 100 + 1 ≤ 2 * n + 1 := by omega
  rcases h with h | h
  · omega
  · have h2 : 58 ^ (K - 1) < 58 ^ (n * 138 / 100 + 1) := by omega
    have := (Nat.pow_lt_pow_iff_right (by decide : 1 < 58)).1 h2
    omega
end Go.Proofs.YtilngifollpoeaaGreatFmt
