/- Plain laws for base58's decoding: runes of plain letters, words of 32 bits, the bytes of a number. -/
import Derived.Test.YtilngifollpoeaaGreatFmtB58x
import Derived.Test.YtilngifollpoeaaGreatFmtSb1
import Derived.Laws.IdiomStrings
import Derived.Laws.RangeString
namespace Go.Proofs.YtilngifollpoeaaGreatFmt
open Go.RowKit

theorem runes_plain (s : ByteArray) (h : ∀ x ∈ s.data.toList, x.toNat < 128) : ∀ (bound i : Nat) (acc : Array Value), i + bound = s.size →
    Conv.runesFrom s bound i acc = acc ++ ((s.data.toList.drop i).map fun x => Value.int .i32 (x.toNat : Int)).toArray
  | 0, i, acc, hi => by
    rw [Conv.runesFrom, List.drop_of_length_le (by rw [← Lib.size_eq]; omega)]
    simp
  | bound + 1, i, acc, hi => by
    have hlt : i < s.size := by omega
    have hx : s.data.toList[i]? = some s[i] := by
      rw [List.getElem?_eq_getElem (by rw [← Lib.size_eq]; exact hlt), Array.getElem_toList]
      rfl
    have hd : s.data.toList.drop i = s[i] :: s.data.toList.drop (i + 1) := by
      have h1 := List.drop_eq_getElem_cons (l := s.data.toList) (i := i) (by rw [← Lib.size_eq]; exact hlt)
      rw [h1]
      congr 1
    rw [Conv.runesFrom, if_pos hlt, decode_ascii s i hlt (h _ (List.mem_of_getElem? hx))]
    show Conv.runesFrom s bound (i + 1) _ = _
    rw [runes_plain s h bound (i + 1) _ (by omega), hd]
    apply Array.ext'
    simp

/-- The cells 0 .. m - 1 of the block D hold the numbers F 0 .. F (m - 1) of the kind q and may be written. -/
def RowI (q : IntKind) (w : World) (D m : Nat) (F : Nat → Nat) : Prop := ∀ i, i < m → w.cell? ⟨D, i, none⟩ = some (.int q ((F i : Nat) : Int)) ∧ w.frozen? ⟨D, i, none⟩ = false

section
variable {q : IntKind} {w w' : World} {D m B : Nat} {F : Nat → Nat}
theorem RowI.cell (h : RowI q w D m F) {i : Nat} (hi : i < m) : w.cell? ⟨D, i, none⟩ = some (.int q ((F i : Nat) : Int)) := (h i hi).1
theorem RowI.frozen (h : RowI q w D m F) {i : Nat} (hi : i < m) : w.frozen? ⟨D, i, none⟩ = false := (h i hi).2
theorem RowI.set_ (h : RowI q w D m F) {i : Nat} (hi : i < m) (v : Nat) : RowI q (w.setCell ⟨D, i, none⟩ (.int q (v : Int))) D m (updF F i v) := by
  intro j hj
  refine ⟨?_, by rw [World.frozen?_setCell]; exact h.frozen hj⟩
  unfold updF
  by_cases e : j = i
  · subst e
    rw [if_pos rfl]
    exact World.cell?_setCell_same _ _ _ (h.cell hj)
  · rw [if_neg e]
    refine Eq.trans (World.cell?_setCell_other _ _ _ _ (fun e2 => e ?_)) (h.cell hj)
    injection e2 with e3 e4
    exact e4.symm
theorem RowI.far (h : RowI q w D m F) {p : Addr} (hp : D ≠ p.block) (v : Value) : RowI q (w.setCell p v) D m F := fun i hi => by
  refine ⟨?_, by rw [World.frozen?_setCell]; exact h.frozen hi⟩
  refine Eq.trans (World.cell?_setCell_other _ _ _ _ (fun e2 => hp ?_)) (h.cell hi)
  rw [e2]
theorem RowI.below (h : RowI q w D m F) (hb : Below B w w') (hD : D < B) : RowI q w' D m F := fun i hi => ⟨(hb.cell (p := ⟨D, i, none⟩) hD).trans (h.cell hi), (hb.frozen (p := ⟨D, i, none⟩) hD).trans (h.frozen hi)⟩
theorem RowI.ext (h : RowI q w D m F) {G : Nat → Nat} (e : ∀ i, i < m → F i = G i) : RowI q w D m G := fun i hi => by
  rw [← e i hi]
  exact h i hi
end

/-- What the first r of S digits to the base 58 of N are worth. -/
def pre58 (S N r : Nat) : Nat := N / 58 ^ (S - r)

theorem pre58_zero {S N : Nat} (h : N < 58 ^ S) : pre58 S N 0 = 0 := Nat.div_eq_of_lt h
theorem pre58_end (S N : Nat) : pre58 S N S = N := by unfold pre58; rw [Nat.sub_self, Nat.pow_zero, Nat.div_one]
theorem pre58_succ {S N r : Nat} (h : r < S) : pre58 S N (r + 1) = 58 * pre58 S N r + N / 58 ^ (S - 1 - r) % 58 := by
  unfold pre58
  have e1 : S - (r + 1) = S - 1 - r := by omega
  have e2 : S - r = (S - 1 - r) + 1 := by omega
  rw [e1, e2, Nat.pow_succ, ← Nat.div_div_eq_div_mul]
  omega
theorem pre58_lt {S N r : Nat} (h : N < 58 ^ S) (hr : r ≤ S) : pre58 S N r < 58 ^ r := by
  unfold pre58
  rw [Nat.div_lt_iff_lt_mul (Nat.pow_pos (by decide)), ← Nat.pow_add]
  rwa [show r + (S - r) = S from by omega]

/-- The letters of a text are those of its digits, the zeros ahead of them too. -/
theorem t58_at (K : Nat) (l : List UInt8) (hK : Can 58 K (bnum l)) (i : Nat) (hi : i < lz l + K) : (t58 K l)[i]? = some (btcA.getD (bnum l / 58 ^ (lz l + K - 1 - i) % 58) 0) := by
  unfold t58
  by_cases h : i < lz l
  · rw [List.getElem?_append_left (by rw [List.length_replicate]; exact h), List.getElem?_replicate, if_pos h]
    have : bnum l / 58 ^ (lz l + K - 1 - i) = 0 := Nat.div_eq_of_lt (Nat.lt_of_lt_of_le hK.2 (Nat.pow_le_pow_right (by decide) (by omega)))
    rw [this]
    rfl
  · rw [List.getElem?_append_right (by rw [List.length_replicate]; omega), List.length_replicate, List.getElem?_map, fw_get 58 K _ _ (by omega)]
    show some _ = _
    rw [show K - 1 - (i - lz l) = lz l + K - 1 - i from by omega]

theorem btc_dec : ∀ d, d < 58 → decT btcA 58 (btcA.getD d 0).toNat = d ∧ (btcA.getD d 0).toNat < 128 ∧ (d = 0 ↔ (btcA.getD d 0).toNat = 49) := by decide

theorem t58_plain (K : Nat) (l : List UInt8) (hK : Can 58 K (bnum l)) : ∀ x ∈ t58 K l, x.toNat < 128 := by
  intro x hx
  obtain ⟨i, hi⟩ := List.mem_iff_getElem?.1 hx
  have hlt : i < lz l + K := by
    have := (List.getElem?_eq_some_iff.1 hi).1
    rwa [t58_len] at this
  rw [t58_at K l hK i hlt] at hi
  rw [← Option.some.inj hi]
  exact (btc_dec _ (Nat.mod_lt _ (by decide))).2.1

/-- Bytes out of a word of 32 bits. -/
theorem word_byte (X c : Nat) (hc : c ≤ 3) : X % 4294967296 / 256 ^ c % 256 = X / 256 ^ c % 256 := by
  have h : c = 0 ∨ c = 1 ∨ c = 2 ∨ c = 3 := by omega
  rcases h with rfl | rfl | rfl | rfl <;> simp only [Nat.pow_zero, Nat.pow_succ, Nat.one_mul, Nat.reduceMul] <;> omega

theorem word_at (N a c : Nat) (hc : c ≤ 3) : (N / 4294967296 ^ a % 4294967296) / 256 ^ c % 256 = N / 256 ^ (4 * a + c) % 256 := by
  rw [word_byte _ c hc, Nat.div_div_eq_div_mul, Nat.pow_add, show (4294967296 : Nat) = 256 ^ 4 from rfl, ← Nat.pow_mul]

/-- The number of words of S bytes; how many bytes the first one bears. -/
theorem words_split (S : Nat) (h : 0 < S) : ∃ M bl, M = (S + 3) / 4 ∧ 1 ≤ bl ∧ bl ≤ 4 ∧ 1 ≤ M ∧ S = bl + 4 * (M - 1) ∧ (S % 4 = 0 ∧ bl = 4 ∨ 0 < S % 4 ∧ bl = S % 4) := by
  refine ⟨(S + 3) / 4, if S % 4 = 0 then 4 else S % 4, rfl, ?_, ?_, by omega, ?_, ?_⟩
  · split <;> omega
  · split <;> omega
  · split <;> omega
  · by_cases e : S % 4 = 0
    · exact .inl ⟨e, if_pos e⟩
    · exact .inr ⟨by omega, if_neg e⟩

/-- A number of r digits to the base 58 has no more than r bytes; its first word bears bl of them. -/
theorem pow58_le (r : Nat) : 58 ^ r ≤ 256 ^ r := Nat.pow_le_pow_left (by decide) r

theorem first_word {P S M bl : Nat} (hP : P < 256 ^ S) (hS : S = bl + 4 * (M - 1)) : P / 4294967296 ^ (M - 1) % 4294967296 < 256 ^ bl := by
  have h1 : P / 4294967296 ^ (M - 1) < 256 ^ bl := by
    rw [Nat.div_lt_iff_lt_mul (Nat.pow_pos (by decide)), show (4294967296 : Nat) = 256 ^ 4 from rfl, ← Nat.pow_mul, ← Nat.pow_add, ← hS]
    exact hP
  exact Nat.lt_of_le_of_lt (Nat.mod_le _ _) h1

theorem all_words {P S M bl : Nat} (hP : P < 256 ^ S) (hS : S = bl + 4 * (M - 1)) (hM : 1 ≤ M) (hb : bl ≤ 4) : P < 4294967296 ^ M := by
  rw [show (4294967296 : Nat) = 256 ^ 4 from rfl, ← Nat.pow_mul]
  exact Nat.lt_of_lt_of_le hP (Nat.pow_le_pow_right (by decide) (by omega))

theorem wraps_u32' : ∀ n : Int, 0 ≤ n → n < 2 ^ 32 → IntKind.u32.wrap n = n := fun n h0 h1 => by
  simp [IntKind.wrap, IntKind.bits, IntKind.signed]
  omega

theorem wraps_u64' : ∀ n : Int, 0 ≤ n → n < 2 ^ 64 → IntKind.u64.wrap n = n := fun n h0 h1 => by
  simp [IntKind.wrap, IntKind.bits, IntKind.signed]
  omega

theorem u32_and63 {x : Nat} (h : x < 64) : bits .and .u32 (x : Int) 63 = x := by
  have := bits_mask .u32 32 (by decide) wraps_u32' 6 (by decide) (x : Int) (by omega) (by omega)
  rw [show ((2 : Int) ^ 6 - 1) = 63 from rfl] at this
  rw [this]
  omega

theorem u64_low {x : Nat} (h : x < 18446744073709551616) : bits .and .u64 (x : Int) 4294967295 = ((x % 4294967296 : Nat) : Int) := by
  have := bits_mask .u64 64 (by decide) wraps_u64' 32 (by decide) (x : Int) (by omega) (by omega)
  rw [show ((2 : Int) ^ 32 - 1) = 4294967295 from rfl] at this
  rw [this]
  omega

theorem and_above {x k m : Nat} (hx : x < 2 ^ k) : x &&& (2 ^ k * m) = 0 := by
  apply Nat.eq_of_testBit_eq
  intro i
  rw [Nat.testBit_and, Nat.testBit_two_pow_mul, Nat.zero_testBit]
  by_cases h : k ≤ i
  · rw [Nat.testBit_lt_two_pow (Nat.lt_of_lt_of_le hx (Nat.pow_le_pow_right (by decide) h))]
    rfl
  · rw [decide_eq_false (by omega)]
    simp

theorem u32_and_above {x k m : Nat} (hx : x < 2 ^ k) (hk : 2 ^ k * m < 2 ^ 32) (hk2 : k ≤ 32) : bits .and .u32 (x : Int) ((2 ^ k * m : Nat) : Int) = 0 := by
  have h := (bits_nat .u32 32 (by decide) wraps_u32' x (2 ^ k * m) (Nat.lt_of_lt_of_le hx (Nat.pow_le_pow_right (by decide) hk2)) hk).1
  rw [h, and_above hx]
  rfl

/-- The mask of the bytes that the first word does not bear. -/
theorem mask_zero (x : Nat) : (x < 256 → bits .and .u32 (x : Int) 4294967040 = 0) ∧ (x < 65536 → bits .and .u32 (x : Int) 4294901760 = 0) ∧ (x < 16777216 → bits .and .u32 (x : Int) 4278190080 = 0) ∧ (x < 4294967296 → bits .and .u32 (x : Int) 0 = 0) :=
  ⟨fun h => u32_and_above (k := 8) (m := 16777215) h (by decide) (by decide), fun h => u32_and_above (k := 16) (m := 65535) h (by decide) (by decide), fun h => u32_and_above (k := 24) (m := 255) h (by decide) (by decide), fun h => u32_and_above (k := 32) (m := 0) h (by decide) (by decide)⟩
end Go.Proofs.YtilngifollpoeaaGreatFmt
