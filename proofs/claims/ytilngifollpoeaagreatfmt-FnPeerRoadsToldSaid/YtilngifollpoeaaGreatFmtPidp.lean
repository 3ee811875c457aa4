/- The ID of a toy key is a multihash, its number is not zero, its base58 text begins with 'Qm' or '1': plain laws. -/
import Derived.Test.YtilngifollpoeaaGreatFmtPid
import Derived.Test.YtilngifollpoeaaGreatFmtBase
import Derived.Test.YtilngifollpoeaaGreatFmtB58x
namespace Go.Proofs.YtilngifollpoeaaGreatFmt

theorem bnum_cons (x : UInt8) (l : List UInt8) : bnum (x :: l) = x.toNat * 256 ^ l.length + bnum l := by
  have key : ∀ (n : Nat) (l : List UInt8), l.length = n → bnum (x :: l) = x.toNat * 256 ^ l.length + bnum l := by
    intro n
    induction n with
    | zero =>
      intro l h
      have e := List.eq_nil_of_length_eq_zero h
      subst e
      simp [bnum, num]
    | succ n ih =>
      intro l h
      obtain ⟨r, c, e⟩ : ∃ r c, l = r ++ [c] := ⟨l.dropLast, l.getLast (by intro e; subst e; simp at h), (List.dropLast_concat_getLast _).symm⟩
      subst e
      have hr : r.length = n := by simpa using h
      have e1 : x :: (r ++ [c]) = (x :: r) ++ [c] := rfl
      rw [e1, bnum_snoc, bnum_snoc, ih r hr, List.length_append, List.length_singleton, Nat.pow_succ]
      rw [Nat.mul_add, Nat.mul_comm (256 ^ r.length) 256, Nat.mul_left_comm]
      omega
  exact key _ l rfl

theorem prefix_two (x y a b : UInt8) (r : List UInt8) (hx : x = a) (hy : y = b) : Lib.hasPrefix (x :: y :: r) [a, b] = true := by
  subst hx hy
  simp [Lib.hasPrefix, List.isPrefixOf]

/-- What the law needs of an ID. -/
structure IdOk (l : List UInt8) : Prop where
  mh : ∃ code data, IsMh l code data
  len : l.length ≤ 44
  pos : 0 < bnum l
  pre : ∀ K, Can 58 K (bnum l) → Lib.hasPrefix (t58 K l) [81, 109] = true ∨ Lib.hasPrefix (t58 K l) [49] = true

theorem idOk_id (m S : List UInt8) (h3 : 3 ≤ m.length) (h42 : m.length ≤ 42) : IdOk (idOf m S) := by
  have he : idOf m S = 0 :: m.length.toUInt8 :: m := by
    unfold idOf
    rw [if_pos h42]
    rfl
  have hn : m.length.toUInt8.toNat = m.length := by simp [Nat.toUInt8]; omega
  have hne : m.length.toUInt8 ≠ 0 := fun e => by
    rw [e] at hn
    simp at hn
    omega
  have hlz : lz (0 :: m.length.toUInt8 :: m) = 1 := by simp [lz, hne]
  rw [he]
  refine ⟨⟨0, m, ?_, ?_, ?_⟩, by simp; omega, ?_, fun K _ => .inr ?_⟩
  · decide
  · omega
  · rw [Lib.uvarint_small (by decide), Lib.uvarint_small (by omega)]
    rfl
  · rw [bnum_cons, bnum_cons, hn]
    have : 0 < 256 ^ m.length := Nat.pow_pos (by decide)
    have h2 : 0 < m.length * 256 ^ m.length := Nat.mul_pos (by omega) this
    omega
  · unfold t58
    rw [hlz]
    simp [Lib.hasPrefix, List.isPrefixOf]

theorem idOk_sha (m S : List UInt8) (h42 : ¬ m.length ≤ 42) (hS : S.length = 32) : IdOk (idOf m S) := by
  have he : idOf m S = 18 :: 32 :: S := by
    unfold idOf
    rw [if_neg h42]
    rfl
  rw [he]
  have hb : bnum (18 :: 32 :: S) = 18 * 256 ^ 33 + (32 * 256 ^ 32 + bnum S) := by
    rw [bnum_cons, bnum_cons, List.length_cons, hS]
    rfl
  have hr := bnum_lt S
  rw [hS] at hr
  obtain ⟨N, hN⟩ : ∃ N, N = bnum (18 :: 32 :: S) := ⟨_, rfl⟩
  have hlz : lz (18 :: 32 :: S) = 0 := by simp [lz]
  have h1 : 1378 * 58 ^ 44 ≤ 18 * 256 ^ 33 + 32 * 256 ^ 32 := by decide
  have h2 : 18 * 256 ^ 33 + 33 * 256 ^ 32 ≤ 1379 * 58 ^ 44 := by decide
  have hd : N / 58 ^ 44 = 1378 := by
    refine (Nat.div_eq_iff (Nat.pow_pos (by decide))).2 ⟨?_, ?_⟩ <;> rw [hN, hb] <;> omega
  have hlo : 58 ^ 45 ≤ N := by
    have : 58 ^ 45 ≤ 1378 * 58 ^ 44 := by decide
    rw [hN, hb]
    omega
  have hhi : N < 58 ^ 46 := by
    have : 1379 * 58 ^ 44 ≤ 58 ^ 46 := by decide
    rw [hN, hb]
    omega
  refine ⟨⟨18, S, ?_, ?_, ?_⟩, by simp; omega, ?_, fun K hK => .inl ?_⟩
  · decide
  · omega
  · rw [Lib.uvarint_small (by decide), hS, Lib.uvarint_small (by decide)]
    rfl
  · rw [← hN]
    exact Nat.lt_of_lt_of_le (Nat.pow_pos (by decide)) hlo
  · rw [← hN] at hK
    have hK46 : K = 46 := hK.unique (by decide) ⟨.inr hlo, hhi⟩
    subst hK46
    unfold t58
    rw [hlz, ← hN, fw_cons, fw_cons]
    have e1 : N / 58 ^ 45 % 58 = 23 := by
      rw [Nat.pow_succ, ← Nat.div_div_eq_div_mul, hd]
    have e2 : N / 58 ^ 44 % 58 = 44 := by rw [hd]
    rw [e1, e2]
    exact prefix_two _ _ 81 109 _ rfl rfl

theorem idOk (m S : List UInt8) (h3 : 3 ≤ m.length) (hS : S.length = 32) : IdOk (idOf m S) := by
  by_cases h : m.length ≤ 42
  · exact idOk_id m S h3 h
  · exact idOk_sha m S h hS
end Go.Proofs.YtilngifollpoeaaGreatFmt
