/- Plain laws of digits, quintets and numbers in a base; words for the walks: a slice that reads as bytes, a block that is known whole, cell by cell; nothing of the program stands here. -/
import Derived.Below
import Derived.Lib.VarintBits
import Derived.WalkKit
import Derived.Laws.OwnMore
import Derived.Deep.AppendLies
import Derived.Deep.Draws
import Derived.Laws.Rows
import Derived.Lib.Hide
import Derived.Lib.UnsafeStr
import Derived.Lib.VarintMem
import Derived.Laws.IdiomCopy
/- Plain numbers and lists, no program: digits of a number to a base in a fixed width and a long multiplication with an addend, digit by digit; leading zeros of bytes; base 32. -/
namespace Go.Proofs.YtilngifollpoeaaGreatFmt


/-- The k lowest digits of n to the base B, the most significant one first. -/
def fw (B : Nat) : Nat → Nat → List Nat
  | 0, _ => []
  | k + 1, n => fw B k (n / B) ++ [n % B]

theorem fw_len (B : Nat) : ∀ k n, (fw B k n).length = k
  | 0, _ => rfl
  | k + 1, n => by simp [fw, fw_len B k]

theorem fw_get (B : Nat) : ∀ (k n i : Nat), i < k → (fw B k n)[i]? = some (n / B ^ (k - 1 - i) % B)
  | 0, _, _, h => absurd h (by omega)
  | k + 1, n, i, h => by
    by_cases hi : i < k
    · rw [fw, List.getElem?_append_left (by rw [fw_len]; exact hi), fw_get B k (n / B) i hi, Nat.div_div_eq_div_mul, ← Nat.pow_succ']
      congr 4
      omega
    · have e : i = k := by omega
      subst e
      rw [fw, List.getElem?_append_right (by rw [fw_len]; exact Nat.le_refl _), fw_len]
      simp

theorem fw_cons (B : Nat) : ∀ (k n : Nat), fw B (k + 1) n = (n / B ^ k % B) :: fw B k n
  | 0, n => by simp [fw]
  | k + 1, n => by
    rw [fw, fw_cons B k (n / B), Nat.div_div_eq_div_mul, ← Nat.pow_succ', List.cons_append]
    rfl

theorem fw_drop (B : Nat) : ∀ (j k n : Nat), j ≤ k → (fw B k n).drop j = fw B (k - j) n
  | 0, k, n, _ => by simp
  | j + 1, 0, n, h => absurd h (by omega)
  | j + 1, k + 1, n, h => by
    rw [fw_cons, List.drop_succ_cons, fw_drop B j k n (by omega)]
    congr 1
    omega

theorem fw_zero (B : Nat) : ∀ k, fw B k 0 = List.replicate k 0
  | 0 => rfl
  | k + 1 => by rw [fw_cons, fw_zero B k]; simp [List.replicate_succ]

theorem fw_lt (B : Nat) (hB : 0 < B) : ∀ (k n x : Nat), x ∈ fw B k n → x < B
  | 0, _, _, h => by simp [fw] at h
  | k + 1, n, x, h => by
    rw [fw, List.mem_append] at h
    rcases h with h | h
    · exact fw_lt B hB k _ x h
    · simp at h; subst h; exact Nat.mod_lt _ hB

/-- The upper digits of N, the t lowest ones of M. -/
def mix (B k N M t : Nat) : List Nat := (fw B k N).take (k - t) ++ fw B t M

theorem mix_len (B k N M t : Nat) (h : t ≤ k) : (mix B k N M t).length = k := by
  simp [mix, fw_len]; omega

theorem mix_start (B k N M : Nat) : mix B k N M 0 = fw B k N := by
  simp [mix, fw]
  rw [List.take_of_length_le (by rw [fw_len]; exact Nat.le_refl _)]

theorem mix_end (B k N M : Nat) : mix B k N M k = fw B k M := by simp [mix]

theorem mix_at (B k N M t : Nat) (h : t < k) : (mix B k N M t)[k - 1 - t]? = some (N / B ^ t % B) := by
  have e : k - 1 - (k - 1 - t) = t := by omega
  rw [mix, List.getElem?_append_left (by rw [List.length_take, fw_len]; omega), List.getElem?_take, if_pos (by omega), fw_get B k N _ (by omega), e]

theorem mix_set (B k N M t : Nat) (h : t < k) : (mix B k N M t).set (k - 1 - t) (M / B ^ t % B) = mix B k N M (t + 1) := by
  apply List.ext_getElem?
  intro i
  have hl : (mix B k N M t).length = k := mix_len _ _ _ _ _ (by omega)
  rw [List.getElem?_set, hl]
  by_cases hi : i < k
  · by_cases e : k - 1 - t = i
    · rw [if_pos e, if_pos (by omega)]
      rw [mix, List.getElem?_append_right (by rw [List.length_take, fw_len]; omega), List.length_take, fw_len, fw_get _ _ _ _ (by omega)]
      congr 4
      omega
    · rw [if_neg e]
      by_cases hlo : i < k - 1 - t
      · rw [mix, mix, List.getElem?_append_left (by rw [List.length_take, fw_len]; omega), List.getElem?_append_left (by rw [List.length_take, fw_len]; omega), List.getElem?_take, List.getElem?_take, if_pos (by omega), if_pos (by omega)]
      · rw [mix, mix, List.getElem?_append_right (by rw [List.length_take, fw_len]; omega), List.getElem?_append_right (by rw [List.length_take, fw_len]; omega), List.length_take, List.length_take, fw_len, fw_get _ _ _ _ (by omega), fw_get _ _ _ _ (by omega)]
        congr 4
        omega
  · rw [if_neg (by omega), List.getElem?_eq_none (by omega), List.getElem?_eq_none (by rw [mix_len _ _ _ _ _ (by omega)]; omega)]

/-- What is carried on behind the t lowest digits, where a number N is multiplied by m and c is added. -/
def car (B m N c t : Nat) : Nat := (m * (N % B ^ t) + c) / B ^ t

theorem car_start (B m N c : Nat) : car B m N c 0 = c := by simp [car, Nat.mod_one]

theorem car_digit (B m N c t : Nat) (hB : 0 < B) : (car B m N c t + m * (N / B ^ t % B)) % B = (m * N + c) / B ^ t % B := by
  have hP : 0 < B ^ t := Nat.pow_pos hB
  unfold car
  generalize B ^ t = P at hP ⊢
  have e1 : m * N + c = P * (m * (N / P)) + (m * (N % P) + c) := by
    conv => lhs; rw [← Nat.div_add_mod N P, Nat.mul_add]
    rw [Nat.add_assoc, Nat.mul_left_comm]
  rw [e1, Nat.mul_add_div hP]
  generalize (m * (N % P) + c) / P = C
  have e2 : m * (N / P) + C = (C + m * (N / P % B)) + B * (m * (N / P / B)) := by
    conv => lhs; rw [← Nat.div_add_mod (N / P) B, Nat.mul_add]
    rw [Nat.mul_left_comm m B]
    omega
  rw [e2, Nat.add_mul_mod_self_left]

theorem car_next (B m N c t : Nat) (hB : 0 < B) : (car B m N c t + m * (N / B ^ t % B)) / B = car B m N c (t + 1) := by
  have hP : 0 < B ^ t := Nat.pow_pos hB
  unfold car
  rw [Nat.pow_succ, Nat.mod_mul, ← Nat.div_div_eq_div_mul]
  generalize B ^ t = P at hP ⊢
  congr 1
  have e : m * (N % P + P * (N / P % B)) + c = (m * (N % P) + c) + P * (m * (N / P % B)) := by
    rw [Nat.mul_add, Nat.mul_left_comm m P]
    omega
  rw [e, Nat.add_mul_div_left _ _ hP, Nat.add_comm]

theorem car_end (B m N c t : Nat) (hN : N < B ^ t) : car B m N c t = (m * N + c) / B ^ t := by
  unfold car
  rw [Nat.mod_eq_of_lt hN]

theorem car_le (B m N c t : Nat) (hB : 0 < B) (hc : c < m) : car B m N c t < m := by
  have hP : 0 < B ^ t := Nat.pow_pos hB
  unfold car
  rw [Nat.div_lt_iff_lt_mul hP]
  have := Nat.mod_lt N hP
  have h2 : m * (N % B ^ t) + m ≤ m * B ^ t := by
    rw [← Nat.mul_succ]
    exact Nat.mul_le_mul_left _ this
  omega

/-- K digits are just those that a number has: no zero ahead. -/
def Can (B K n : Nat) : Prop := (K = 0 ∨ B ^ (K - 1) ≤ n) ∧ n < B ^ K

theorem Can.unique {B K K' n : Nat} (hB : 2 ≤ B) (h : Can B K n) (h' : Can B K' n) : K = K' := by
  have key : ∀ {a b : Nat}, Can B a n → Can B b n → ¬ a < b := by
    intro a b ha hb hlt
    rcases hb.1 with h0 | h0
    · omega
    · have : B ^ a ≤ B ^ (b - 1) := Nat.pow_le_pow_right (by omega) (by omega)
      have := ha.2
      omega
  have := key h h'
  have := key h' h
  omega

theorem Can.fw_eq {B K K' n : Nat} (hB : 2 ≤ B) (h : Can B K n) (h' : Can B K' n) : fw B K n = fw B K' n := by rw [h.unique hB h']

/-- A digit that is zero ahead of a number's first one can be struck. -/
theorem lt_of_digit_zero {B k n : Nat} (_hB : 0 < B) (h : n < B ^ (k + 1)) (h0 : n / B ^ k % B = 0) : n < B ^ k := by
  have h1 : n / B ^ k < B := by
    rw [Nat.div_lt_iff_lt_mul (Nat.pow_pos _hB)]
    rw [Nat.pow_succ, Nat.mul_comm] at h
    exact h
  rw [Nat.mod_eq_of_lt h1] at h0
  rcases (Nat.div_eq_zero_iff).1 h0 with h2 | h2
  · have := Nat.pow_pos (n := k) _hB
    omega
  · exact h2

theorem le_of_digit {B k n : Nat} (h0 : n / B ^ k % B ≠ 0) : B ^ k ≤ n := by
  rcases Nat.lt_or_ge n (B ^ k) with h | h
  · rw [Nat.div_eq_of_lt h] at h0
    simp at h0
  · exact h

/-- The number that bytes spell. -/
def num (l : List Nat) : Nat := l.foldl (fun a c => 256 * a + c) 0

theorem num_snoc (l : List Nat) (c : Nat) : num (l ++ [c]) = 256 * num l + c := by simp [num]

theorem num_lt : ∀ (n : Nat) (l : List Nat), l.length = n → (∀ x ∈ l, x < 256) → num l < 256 ^ n
  | 0, l, h, _ => by
    have : l = [] := List.eq_nil_of_length_eq_zero h
    subst this
    simp [num]
  | n + 1, l, h, hx => by
    have hne : l ≠ [] := by intro e; subst e; simp at h
    obtain ⟨l', c, rfl⟩ : ∃ l' c, l = l' ++ [c] := ⟨l.dropLast, l.getLast hne, (List.dropLast_concat_getLast hne).symm⟩
    rw [num_snoc, Nat.pow_succ]
    have h1 := num_lt n l' (by simpa using h) (fun x hx' => hx x (by simp [hx']))
    have h2 := hx c (by simp)
    omega

theorem num_zeros (z : Nat) (l : List Nat) : num (List.replicate z 0 ++ l) = num l := by
  have h : ∀ z, (List.replicate z 0).foldl (fun a c => 256 * a + c) 0 = 0 := by
    intro z
    induction z with
    | zero => rfl
    | succ z ih => simp [List.replicate_succ, ih]
  rw [num, List.foldl_append, h]
  rfl

/-- The digits to the base 256 of the number that bytes spell are the bytes. -/
theorem fw_num : ∀ (n : Nat) (l : List Nat), l.length = n → (∀ x ∈ l, x < 256) → fw 256 n (num l) = l
  | 0, l, h, _ => by
    have : l = [] := List.eq_nil_of_length_eq_zero h
    subst this
    rfl
  | n + 1, l, h, hx => by
    have hne : l ≠ [] := by intro e; subst e; simp at h
    obtain ⟨l', c, rfl⟩ : ∃ l' c, l = l' ++ [c] := ⟨l.dropLast, l.getLast hne, (List.dropLast_concat_getLast hne).symm⟩
    have h2 := hx c (by simp)
    rw [num_snoc, fw, Nat.mul_add_div (by omega), Nat.div_eq_of_lt h2, Nat.add_zero, fw_num n l' (by simpa using h) (fun x hx' => hx x (by simp [hx'])), Nat.mul_add_mod, Nat.mod_eq_of_lt h2]



theorem fw_get_zero {B k N M : Nat} (hN : N < B ^ M) {i : Nat} (hi : i + M < k) (hB : 0 < B) : (fw B k N)[i]? = some 0 := by
  rw [fw_get B k N i (by omega)]
  have h : N / B ^ (k - 1 - i) = 0 := Nat.div_eq_of_lt (Nat.lt_of_lt_of_le hN (Nat.pow_le_pow_right hB (by omega)))
  rw [h, Nat.zero_mod]

theorem fw_get_first {B k N M : Nat} (hB : 2 ≤ B) (h : Can B M N) (hM : 0 < M) (hk : M ≤ k) : ∃ d, (fw B k N)[k - M]? = some d ∧ d ≠ 0 := by
  refine ⟨_, fw_get B k N (k - M) (by omega), ?_⟩
  rcases h.1 with h0 | h0
  · omega
  · have e : k - 1 - (k - M) = M - 1 := by omega
    rw [e]
    have hlt : N / B ^ (M - 1) < B := by
      rw [Nat.div_lt_iff_lt_mul (Nat.pow_pos (by omega)), ← Nat.pow_succ']
      have e2 : (M - 1).succ = M := by omega
      rw [e2]
      exact h.2
    rw [Nat.mod_eq_of_lt hlt]
    have : 0 < N / B ^ (M - 1) := Nat.div_pos h0 (Nat.pow_pos (by omega))
    omega

/-- How many zeros stand ahead. -/
def lz : List UInt8 → Nat
  | [] => 0
  | x :: r => if x = 0 then lz r + 1 else 0

theorem lz_le : ∀ l : List UInt8, lz l ≤ l.length
  | [] => Nat.le_refl _
  | x :: r => by
    have := lz_le r
    unfold lz
    split <;> simp <;> omega

theorem lz_zero : ∀ (l : List UInt8) (i : Nat), i < lz l → l[i]? = some 0
  | [], i, h => by simp [lz] at h
  | x :: r, i, h => by
    unfold lz at h
    split at h
    · rename_i hx
      subst hx
      cases i with
      | zero => rfl
      | succ i => simpa using lz_zero r i (by omega)
    · omega

theorem lz_stop : ∀ (l : List UInt8) (x : UInt8), l[lz l]? = some x → x ≠ 0
  | [], x, h => by simp [lz] at h
  | y :: r, x, h => by
    unfold lz at h
    split at h
    · rename_i hy
      exact lz_stop r x (by simpa using h)
    · rename_i hy
      simp at h
      subst h
      exact hy

/-- The number that bytes spell. -/
def bnum (l : List UInt8) : Nat := num (l.map (·.toNat))

theorem bnum_snoc (l : List UInt8) (c : UInt8) : bnum (l ++ [c]) = 256 * bnum l + c.toNat := by
  unfold bnum
  rw [List.map_append, List.map_cons, List.map_nil, num_snoc]

theorem bnum_nil : bnum [] = 0 := rfl

theorem bnum_lt (l : List UInt8) : bnum l < 256 ^ l.length := by
  have h := num_lt (l.map (·.toNat)).length (l.map (·.toNat)) rfl (by
    intro x hx
    obtain ⟨y, _, rfl⟩ := List.mem_map.1 hx
    exact y.toNat_lt)
  rwa [List.length_map] at h

theorem fw_bnum (l : List UInt8) : fw 256 l.length (bnum l) = l.map (·.toNat) := by
  have h := fw_num l.length (l.map (·.toNat)) (by simp) (by
    intro x hx
    obtain ⟨y, _, rfl⟩ := List.mem_map.1 hx
    exact y.toNat_lt)
  exact h

theorem bnum_take_lz : ∀ (l : List UInt8) (i : Nat), i ≤ lz l → bnum (l.take i) = 0
  | l, 0, _ => by simp [bnum, num]
  | l, i + 1, h => by
    have hz := lz_zero l i (by omega)
    rw [List.take_add_one, hz]
    simp only [Option.toList_some]
    rw [bnum_snoc, bnum_take_lz l i (by omega)]
    rfl

theorem bnum_take_succ (l : List UInt8) (i : Nat) (c : UInt8) (h : l[i]? = some c) : bnum (l.take (i + 1)) = 256 * bnum (l.take i) + c.toNat := by
  rw [List.take_add_one, h]
  simp only [Option.toList_some]
  rw [bnum_snoc]

/-- What stands behind the zeros has just as many digits to the base 256 as bytes. -/
theorem can256 (l : List UInt8) : Can 256 (l.length - lz l) (bnum l) := by
  have hle := lz_le l
  have key : ∀ (k : Nat) (l : List UInt8), l.length = k → Can 256 (l.length - lz l) (bnum l) := by
    intro k
    induction k with
    | zero =>
      intro l hl
      have : l = [] := List.eq_nil_of_length_eq_zero hl
      subst this
      exact ⟨.inl rfl, by decide⟩
    | succ k ih =>
      intro l hl
      match l, hl with
      | x :: r, hl =>
        by_cases hx : x = 0
        · subst hx
          have e1 : bnum (0 :: r) = bnum r := by
            unfold bnum num
            simp
          have e2 : (0 :: r).length - lz (0 :: r) = r.length - lz r := by simp [lz]
          rw [e1, e2]
          exact ih r (by simpa using hl)
        · have e2 : lz (x :: r) = 0 := by unfold lz; rw [if_neg hx]
          rw [e2, Nat.sub_zero]
          refine ⟨.inr ?_, bnum_lt _⟩
          have hx0 : 1 ≤ x.toNat := by
            rcases Nat.eq_zero_or_pos x.toNat with h | h
            · exact absurd (UInt8.toNat_inj.1 (by simpa using h)) hx
            · exact h
          have hpos : bnum (x :: r) / 256 ^ r.length % 256 = x.toNat := by
            have h := fw_bnum (x :: r)
            rw [List.length_cons, fw_cons, List.map_cons, List.cons.injEq] at h
            exact h.1
          have := le_of_digit (B := 256) (k := r.length) (n := bnum (x :: r)) (by omega)
          simpa using this
  exact key _ l rfl



/-- The quintets of bytes. -/
def e32 : List Nat → List Nat
  | a :: b :: c :: d :: e :: r => [a / 8, a % 8 * 4 + b / 64, b / 2 % 32, b % 2 * 16 + c / 16, c % 16 * 2 + d / 128, d / 4 % 32, d % 4 * 8 + e / 32, e % 32] ++ e32 r
  | [a, b, c, d] => [a / 8, a % 8 * 4 + b / 64, b / 2 % 32, b % 2 * 16 + c / 16, c % 16 * 2 + d / 128, d / 4 % 32, d % 4 * 8]
  | [a, b, c] => [a / 8, a % 8 * 4 + b / 64, b / 2 % 32, b % 2 * 16 + c / 16, c % 16 * 2]
  | [a, b] => [a / 8, a % 8 * 4 + b / 64, b / 2 % 32, b % 2 * 16]
  | [a] => [a / 8, a % 8 * 4]
  | [] => []

/-- The bytes of quintets. -/
def d32 : List Nat → List Nat
  | q0 :: q1 :: q2 :: q3 :: q4 :: q5 :: q6 :: q7 :: r => [q0 * 8 + q1 / 4, q1 % 4 * 64 + q2 * 2 + q3 / 16, q3 % 16 * 16 + q4 / 2, q4 % 2 * 128 + q5 * 4 + q6 / 8, q6 % 8 * 32 + q7] ++ d32 r
  | [q0, q1, q2, q3, q4, q5, q6] => [q0 * 8 + q1 / 4, q1 % 4 * 64 + q2 * 2 + q3 / 16, q3 % 16 * 16 + q4 / 2, q4 % 2 * 128 + q5 * 4 + q6 / 8]
  | [q0, q1, q2, q3, q4] => [q0 * 8 + q1 / 4, q1 % 4 * 64 + q2 * 2 + q3 / 16, q3 % 16 * 16 + q4 / 2]
  | [q0, q1, q2, q3] => [q0 * 8 + q1 / 4, q1 % 4 * 64 + q2 * 2 + q3 / 16]
  | [q0, q1] => [q0 * 8 + q1 / 4]
  | _ => []

theorem d32_e32 : ∀ (l : List Nat), (∀ x ∈ l, x < 256) → d32 (e32 l) = l
  | a :: b :: c :: d :: e :: r, h => by
    have ha := h a (by simp); have hb := h b (by simp); have hc := h c (by simp); have hd := h d (by simp); have he := h e (by simp)
    have ih := d32_e32 r (fun x hx => h x (by simp [hx]))
    simp only [e32, List.cons_append, List.nil_append, d32, ih, List.cons.injEq, and_true]
    omega
  | [a, b, c, d], h => by
    have ha := h a (by simp); have hb := h b (by simp); have hc := h c (by simp); have hd := h d (by simp)
    simp only [e32, d32, List.cons.injEq, and_true]
    omega
  | [a, b, c], h => by
    have ha := h a (by simp); have hb := h b (by simp); have hc := h c (by simp)
    simp only [e32, d32, List.cons.injEq, and_true]
    omega
  | [a, b], h => by
    have ha := h a (by simp); have hb := h b (by simp)
    simp only [e32, d32, List.cons.injEq, and_true]
    omega
  | [a], h => by
    have ha := h a (by simp)
    simp only [e32, d32, List.cons.injEq, and_true]
    omega
  | [], _ => rfl

theorem e32_len : ∀ (l : List Nat), (e32 l).length = (l.length * 8 + 4) / 5
  | a :: b :: c :: d :: e :: r => by simp [e32, e32_len r]; omega
  | [a, b, c, d] => by simp [e32]
  | [a, b, c] => by simp [e32]
  | [a, b] => by simp [e32]
  | [a] => by simp [e32]
  | [] => by simp [e32]

theorem e32_lt : ∀ (l : List Nat), (∀ x ∈ l, x < 256) → ∀ q ∈ e32 l, q < 32
  | a :: b :: c :: d :: e :: r, h => by
    have ha := h a (by simp); have hb := h b (by simp); have hc := h c (by simp); have hd := h d (by simp); have he := h e (by simp)
    have ih := e32_lt r (fun x hx => h x (by simp [hx]))
    intro q hq
    simp only [e32, List.mem_append, List.mem_cons, List.not_mem_nil, or_false] at hq
    rcases hq with hq | hq
    · omega
    · exact ih q hq
  | [a, b, c, d], h => by
    have ha := h a (by simp); have hb := h b (by simp); have hc := h c (by simp); have hd := h d (by simp)
    intro q hq
    simp only [e32, List.mem_cons, List.not_mem_nil, or_false] at hq
    omega
  | [a, b, c], h => by
    have ha := h a (by simp); have hb := h b (by simp); have hc := h c (by simp)
    intro q hq
    simp only [e32, List.mem_cons, List.not_mem_nil, or_false] at hq
    omega
  | [a, b], h => by
    have ha := h a (by simp); have hb := h b (by simp)
    intro q hq
    simp only [e32, List.mem_cons, List.not_mem_nil, or_false] at hq
    omega
  | [a], h => by
    have ha := h a (by simp)
    intro q hq
    simp only [e32, List.mem_cons, List.not_mem_nil, or_false] at hq
    omega
  | [], _ => by intro q hq; simp [e32] at hq


end Go.Proofs.YtilngifollpoeaaGreatFmt

/- Quintets and letters: plain laws. -/
namespace Go.Proofs.YtilngifollpoeaaGreatFmt

theorem e32_drop : ∀ (k : Nat) (l : List Nat), 5 * k ≤ l.length → (e32 l).drop (8 * k) = e32 (l.drop (5 * k))
  | 0, l, _ => rfl
  | k + 1, a :: b :: c :: d :: e :: r, h => by
    have ih := e32_drop k r (by simp at h; omega)
    rw [show 8 * (k + 1) = 8 * k + 8 from by omega, show 5 * (k + 1) = 5 * k + 5 from by omega]
    exact ih
  | k + 1, [], h => by simp at h
  | k + 1, [_], h => by simp at h; omega
  | k + 1, [_, _], h => by simp at h; omega
  | k + 1, [_, _, _], h => by simp at h; omega
  | k + 1, [_, _, _, _], h => by simp at h; omega

/-- The letters of the quintets. -/
def elF (a l : List UInt8) (i : Nat) : Nat := (a.getD ((e32 (l.map (·.toNat))).getD i 0) 0).toNat

theorem elF_at (a l : List UInt8) (k j q : Nat) (y : UInt8) (hk : 5 * k ≤ l.length) (hq : (e32 ((l.drop (5 * k)).map (·.toNat)))[j]? = some q) (hy : a[q]? = some y) : elF a l (8 * k + j) = y.toNat := by
  have h := e32_drop k (l.map (·.toNat)) (by simpa using hk)
  rw [← List.map_drop] at h
  have h2 : (e32 (l.map (·.toNat)))[8 * k + j]? = some q := by
    rw [← List.getElem?_drop, h]
    exact hq
  unfold elF
  rw [List.getD_eq_getElem?_getD, List.getD_eq_getElem?_getD, h2]
  simp [hy]

theorem drop_of_get {l : List UInt8} {i : Nat} {x : UInt8} (h : l[i]? = some x) : l.drop i = x :: l.drop (i + 1) := by
  obtain ⟨hi, rfl⟩ := List.getElem?_eq_some_iff.1 h
  exact List.drop_eq_getElem_cons hi

theorem drop5 {l : List UInt8} {k : Nat} {x0 x1 x2 x3 x4 : UInt8} (h0 : l[5 * k]? = some x0) (h1 : l[5 * k + 1]? = some x1) (h2 : l[5 * k + 2]? = some x2) (h3 : l[5 * k + 3]? = some x3) (h4 : l[5 * k + 4]? = some x4) :
    l.drop (5 * k) = x0 :: x1 :: x2 :: x3 :: x4 :: l.drop (5 * k + 5) := by
  rw [drop_of_get h0, drop_of_get h1, drop_of_get h2, drop_of_get h3, drop_of_get h4]

def updF (F : Nat → Nat) (i v : Nat) : Nat → Nat := fun j => if j = i then v else F j

theorem drop1 {l : List UInt8} {k : Nat} {x0 : UInt8} (h0 : l[5 * k]? = some x0) (hl : l.length ≤ 5 * k + 1) :
    l.drop (5 * k) = [x0] := by
  rw [drop_of_get h0, List.drop_eq_nil_of_le (by omega)]

theorem drop2 {l : List UInt8} {k : Nat} {x0 x1 : UInt8} (h0 : l[5 * k]? = some x0) (h1 : l[5 * k + 1]? = some x1) (hl : l.length ≤ 5 * k + 2) :
    l.drop (5 * k) = [x0, x1] := by
  rw [drop_of_get h0, drop_of_get h1, List.drop_eq_nil_of_le (by omega)]

theorem drop3 {l : List UInt8} {k : Nat} {x0 x1 x2 : UInt8} (h0 : l[5 * k]? = some x0) (h1 : l[5 * k + 1]? = some x1) (h2 : l[5 * k + 2]? = some x2) (hl : l.length ≤ 5 * k + 3) :
    l.drop (5 * k) = [x0, x1, x2] := by
  rw [drop_of_get h0, drop_of_get h1, drop_of_get h2, List.drop_eq_nil_of_le (by omega)]

theorem drop4 {l : List UInt8} {k : Nat} {x0 x1 x2 x3 : UInt8} (h0 : l[5 * k]? = some x0) (h1 : l[5 * k + 1]? = some x1) (h2 : l[5 * k + 2]? = some x2) (h3 : l[5 * k + 3]? = some x3) (hl : l.length ≤ 5 * k + 4) :
    l.drop (5 * k) = [x0, x1, x2, x3] := by
  rw [drop_of_get h0, drop_of_get h1, drop_of_get h2, drop_of_get h3, List.drop_eq_nil_of_le (by omega)]

theorem upd8 (E : Nat → Nat) (k y0 y1 y2 y3 y4 y5 y6 y7 : Nat) (e0 : E (8 * k) = y0) (e1 : E (8 * k + 1) = y1) (e2 : E (8 * k + 2) = y2) (e3 : E (8 * k + 3) = y3) (e4 : E (8 * k + 4) = y4) (e5 : E (8 * k + 5) = y5) (e6 : E (8 * k + 6) = y6) (e7 : E (8 * k + 7) = y7) (i : Nat) :
    (if i = 8 * k then y0 else if i = 8 * k + 1 then y1 else if i = 8 * k + 2 then y2 else if i = 8 * k + 3 then y3 else if i = 8 * k + 4 then y4 else if i = 8 * k + 5 then y5 else if i = 8 * k + 6 then y6 else if i = 8 * k + 7 then y7 else if i < 8 * k then E i else 0) = if i < 8 * (k + 1) then E i else 0 := by
  by_cases h0 : i = 8 * k
  · subst h0
    rw [if_pos rfl, if_pos (by omega), e0]
  rw [if_neg h0]
  by_cases h1 : i = 8 * k + 1
  · subst h1
    rw [if_pos rfl, if_pos (by omega), e1]
  rw [if_neg h1]
  by_cases h2 : i = 8 * k + 2
  · subst h2
    rw [if_pos rfl, if_pos (by omega), e2]
  rw [if_neg h2]
  by_cases h3 : i = 8 * k + 3
  · subst h3
    rw [if_pos rfl, if_pos (by omega), e3]
  rw [if_neg h3]
  by_cases h4 : i = 8 * k + 4
  · subst h4
    rw [if_pos rfl, if_pos (by omega), e4]
  rw [if_neg h4]
  by_cases h5 : i = 8 * k + 5
  · subst h5
    rw [if_pos rfl, if_pos (by omega), e5]
  rw [if_neg h5]
  by_cases h6 : i = 8 * k + 6
  · subst h6
    rw [if_pos rfl, if_pos (by omega), e6]
  rw [if_neg h6]
  by_cases h7 : i = 8 * k + 7
  · subst h7
    rw [if_pos rfl, if_pos (by omega), e7]
  rw [if_neg h7]
  by_cases h : i < 8 * k
  · rw [if_pos h, if_pos (by omega)]
  · rw [if_neg h, if_neg (by omega)]

theorem upd7 (E : Nat → Nat) (k y0 y1 y2 y3 y4 y5 y6 : Nat) (e0 : E (8 * k) = y0) (e1 : E (8 * k + 1) = y1) (e2 : E (8 * k + 2) = y2) (e3 : E (8 * k + 3) = y3) (e4 : E (8 * k + 4) = y4) (e5 : E (8 * k + 5) = y5) (e6 : E (8 * k + 6) = y6) (i : Nat) (hi : i < 8 * k + 7) :
    (if i = 8 * k then y0 else if i = 8 * k + 1 then y1 else if i = 8 * k + 2 then y2 else if i = 8 * k + 3 then y3 else if i = 8 * k + 4 then y4 else if i = 8 * k + 5 then y5 else if i = 8 * k + 6 then y6 else if i < 8 * k then E i else 0) = E i := by
  by_cases h0 : i = 8 * k
  · subst h0
    rw [if_pos rfl, e0]
  rw [if_neg h0]
  by_cases h1 : i = 8 * k + 1
  · subst h1
    rw [if_pos rfl, e1]
  rw [if_neg h1]
  by_cases h2 : i = 8 * k + 2
  · subst h2
    rw [if_pos rfl, e2]
  rw [if_neg h2]
  by_cases h3 : i = 8 * k + 3
  · subst h3
    rw [if_pos rfl, e3]
  rw [if_neg h3]
  by_cases h4 : i = 8 * k + 4
  · subst h4
    rw [if_pos rfl, e4]
  rw [if_neg h4]
  by_cases h5 : i = 8 * k + 5
  · subst h5
    rw [if_pos rfl, e5]
  rw [if_neg h5]
  by_cases h6 : i = 8 * k + 6
  · subst h6
    rw [if_pos rfl, e6]
  rw [if_neg h6]
  rw [if_pos (by omega)]

theorem upd5 (E : Nat → Nat) (k y0 y1 y2 y3 y4 : Nat) (e0 : E (8 * k) = y0) (e1 : E (8 * k + 1) = y1) (e2 : E (8 * k + 2) = y2) (e3 : E (8 * k + 3) = y3) (e4 : E (8 * k + 4) = y4) (i : Nat) (hi : i < 8 * k + 5) :
    (if i = 8 * k then y0 else if i = 8 * k + 1 then y1 else if i = 8 * k + 2 then y2 else if i = 8 * k + 3 then y3 else if i = 8 * k + 4 then y4 else if i < 8 * k then E i else 0) = E i := by
  by_cases h0 : i = 8 * k
  · subst h0
    rw [if_pos rfl, e0]
  rw [if_neg h0]
  by_cases h1 : i = 8 * k + 1
  · subst h1
    rw [if_pos rfl, e1]
  rw [if_neg h1]
  by_cases h2 : i = 8 * k + 2
  · subst h2
    rw [if_pos rfl, e2]
  rw [if_neg h2]
  by_cases h3 : i = 8 * k + 3
  · subst h3
    rw [if_pos rfl, e3]
  rw [if_neg h3]
  by_cases h4 : i = 8 * k + 4
  · subst h4
    rw [if_pos rfl, e4]
  rw [if_neg h4]
  rw [if_pos (by omega)]

theorem upd4 (E : Nat → Nat) (k y0 y1 y2 y3 : Nat) (e0 : E (8 * k) = y0) (e1 : E (8 * k + 1) = y1) (e2 : E (8 * k + 2) = y2) (e3 : E (8 * k + 3) = y3) (i : Nat) (hi : i < 8 * k + 4) :
    (if i = 8 * k then y0 else if i = 8 * k + 1 then y1 else if i = 8 * k + 2 then y2 else if i = 8 * k + 3 then y3 else if i < 8 * k then E i else 0) = E i := by
  by_cases h0 : i = 8 * k
  · subst h0
    rw [if_pos rfl, e0]
  rw [if_neg h0]
  by_cases h1 : i = 8 * k + 1
  · subst h1
    rw [if_pos rfl, e1]
  rw [if_neg h1]
  by_cases h2 : i = 8 * k + 2
  · subst h2
    rw [if_pos rfl, e2]
  rw [if_neg h2]
  by_cases h3 : i = 8 * k + 3
  · subst h3
    rw [if_pos rfl, e3]
  rw [if_neg h3]
  rw [if_pos (by omega)]

theorem upd2 (E : Nat → Nat) (k y0 y1 : Nat) (e0 : E (8 * k) = y0) (e1 : E (8 * k + 1) = y1) (i : Nat) (hi : i < 8 * k + 2) :
    (if i = 8 * k then y0 else if i = 8 * k + 1 then y1 else if i < 8 * k then E i else 0) = E i := by
  by_cases h0 : i = 8 * k
  · subst h0
    rw [if_pos rfl, e0]
  rw [if_neg h0]
  by_cases h1 : i = 8 * k + 1
  · subst h1
    rw [if_pos rfl, e1]
  rw [if_neg h1]
  rw [if_pos (by omega)]

end Go.Proofs.YtilngifollpoeaaGreatFmt

/- The quintets of a part of the bytes. -/
namespace Go.Proofs.YtilngifollpoeaaGreatFmt

/-- The quintet i. -/
def Qf (l : List UInt8) (i : Nat) : Nat := (e32 (l.map (·.toNat))).getD i 0

theorem Qf_at {l : List UInt8} {k j q : Nat} (hk : 5 * k ≤ l.length) (h : (e32 ((l.drop (5 * k)).map (·.toNat)))[j]? = some q) : Qf l (8 * k + j) = q := by
  have h3 := e32_drop k (l.map (·.toNat)) (by simpa using hk)
  rw [← List.map_drop] at h3
  unfold Qf
  rw [List.getD_eq_getElem?_getD, ← List.getElem?_drop, h3, h]
  rfl

theorem get_of_getD {l : List UInt8} {i : Nat} (h : i < l.length) : l[i]? = some (l.getD i 0) := by
  rw [List.getD_eq_getElem?_getD, List.getElem?_eq_getElem h]
  rfl

theorem Qf2 {l : List UInt8} {k x0 : Nat} (hl : l.length = 5 * k + 1) (h0 : x0 = (l.getD (5 * k) 0).toNat) : Qf l (8 * k) = x0 / 8 ∧ Qf l (8 * k + 1) = x0 % 8 * 4 := by
  subst h0
  have hd := drop1 (get_of_getD (l := l) (i := 5 * k) (by omega)) (by omega)
  refine ⟨Qf_at (j := 0) (by omega) ?_, Qf_at (j := 1) (by omega) ?_⟩ <;> (rw [hd]; rfl)

theorem Qf4 {l : List UInt8} {k x0 x1 : Nat} (hl : l.length = 5 * k + 2) (h0 : x0 = (l.getD (5 * k) 0).toNat) (h1 : x1 = (l.getD (5 * k + 1) 0).toNat) : Qf l (8 * k) = x0 / 8 ∧ Qf l (8 * k + 1) = x0 % 8 * 4 + x1 / 64 ∧ Qf l (8 * k + 2) = x1 / 2 % 32 ∧ Qf l (8 * k + 3) = x1 % 2 * 16 := by
  subst h0
  subst h1
  have hd := drop2 (get_of_getD (l := l) (i := 5 * k) (by omega)) (get_of_getD (l := l) (i := 5 * k + 1) (by omega)) (by omega)
  refine ⟨Qf_at (j := 0) (by omega) ?_, Qf_at (j := 1) (by omega) ?_, Qf_at (j := 2) (by omega) ?_, Qf_at (j := 3) (by omega) ?_⟩ <;> (rw [hd]; rfl)

theorem Qf5 {l : List UInt8} {k x0 x1 x2 : Nat} (hl : l.length = 5 * k + 3) (h0 : x0 = (l.getD (5 * k) 0).toNat) (h1 : x1 = (l.getD (5 * k + 1) 0).toNat) (h2 : x2 = (l.getD (5 * k + 2) 0).toNat) : Qf l (8 * k) = x0 / 8 ∧ Qf l (8 * k + 1) = x0 % 8 * 4 + x1 / 64 ∧ Qf l (8 * k + 2) = x1 / 2 % 32 ∧ Qf l (8 * k + 3) = x1 % 2 * 16 + x2 / 16 ∧ Qf l (8 * k + 4) = x2 % 16 * 2 := by
  subst h0
  subst h1
  subst h2
  have hd := drop3 (get_of_getD (l := l) (i := 5 * k) (by omega)) (get_of_getD (l := l) (i := 5 * k + 1) (by omega)) (get_of_getD (l := l) (i := 5 * k + 2) (by omega)) (by omega)
  refine ⟨Qf_at (j := 0) (by omega) ?_, Qf_at (j := 1) (by omega) ?_, Qf_at (j := 2) (by omega) ?_, Qf_at (j := 3) (by omega) ?_, Qf_at (j := 4) (by omega) ?_⟩ <;> (rw [hd]; rfl)

theorem Qf7 {l : List UInt8} {k x0 x1 x2 x3 : Nat} (hl : l.length = 5 * k + 4) (h0 : x0 = (l.getD (5 * k) 0).toNat) (h1 : x1 = (l.getD (5 * k + 1) 0).toNat) (h2 : x2 = (l.getD (5 * k + 2) 0).toNat) (h3 : x3 = (l.getD (5 * k + 3) 0).toNat) : Qf l (8 * k) = x0 / 8 ∧ Qf l (8 * k + 1) = x0 % 8 * 4 + x1 / 64 ∧ Qf l (8 * k + 2) = x1 / 2 % 32 ∧ Qf l (8 * k + 3) = x1 % 2 * 16 + x2 / 16 ∧ Qf l (8 * k + 4) = x2 % 16 * 2 + x3 / 128 ∧ Qf l (8 * k + 5) = x3 / 4 % 32 ∧ Qf l (8 * k + 6) = x3 % 4 * 8 := by
  subst h0
  subst h1
  subst h2
  subst h3
  have hd := drop4 (get_of_getD (l := l) (i := 5 * k) (by omega)) (get_of_getD (l := l) (i := 5 * k + 1) (by omega)) (get_of_getD (l := l) (i := 5 * k + 2) (by omega)) (get_of_getD (l := l) (i := 5 * k + 3) (by omega)) (by omega)
  refine ⟨Qf_at (j := 0) (by omega) ?_, Qf_at (j := 1) (by omega) ?_, Qf_at (j := 2) (by omega) ?_, Qf_at (j := 3) (by omega) ?_, Qf_at (j := 4) (by omega) ?_, Qf_at (j := 5) (by omega) ?_, Qf_at (j := 6) (by omega) ?_⟩ <;> (rw [hd]; rfl)

theorem Qf8 {l : List UInt8} {k x0 x1 x2 x3 x4 : Nat} (hl : 5 * k + 5 ≤ l.length) (h0 : x0 = (l.getD (5 * k) 0).toNat) (h1 : x1 = (l.getD (5 * k + 1) 0).toNat) (h2 : x2 = (l.getD (5 * k + 2) 0).toNat) (h3 : x3 = (l.getD (5 * k + 3) 0).toNat) (h4 : x4 = (l.getD (5 * k + 4) 0).toNat) : Qf l (8 * k) = x0 / 8 ∧ Qf l (8 * k + 1) = x0 % 8 * 4 + x1 / 64 ∧ Qf l (8 * k + 2) = x1 / 2 % 32 ∧ Qf l (8 * k + 3) = x1 % 2 * 16 + x2 / 16 ∧ Qf l (8 * k + 4) = x2 % 16 * 2 + x3 / 128 ∧ Qf l (8 * k + 5) = x3 / 4 % 32 ∧ Qf l (8 * k + 6) = x3 % 4 * 8 + x4 / 32 ∧ Qf l (8 * k + 7) = x4 % 32 := by
  subst h0
  subst h1
  subst h2
  subst h3
  subst h4
  have hd := drop5 (get_of_getD (l := l) (i := 5 * k) (by omega)) (get_of_getD (l := l) (i := 5 * k + 1) (by omega)) (get_of_getD (l := l) (i := 5 * k + 2) (by omega)) (get_of_getD (l := l) (i := 5 * k + 3) (by omega)) (get_of_getD (l := l) (i := 5 * k + 4) (by omega))
  refine ⟨Qf_at (j := 0) (by omega) ?_, Qf_at (j := 1) (by omega) ?_, Qf_at (j := 2) (by omega) ?_, Qf_at (j := 3) (by omega) ?_, Qf_at (j := 4) (by omega) ?_, Qf_at (j := 5) (by omega) ?_, Qf_at (j := 6) (by omega) ?_, Qf_at (j := 7) (by omega) ?_⟩ <;> (rw [hd]; rfl)

end Go.Proofs.YtilngifollpoeaaGreatFmt

/- Digits to the base 58 in a row: plain laws. -/
namespace Go.Proofs.YtilngifollpoeaaGreatFmt

theorem Can.exists_ (n : Nat) : ∃ K, Can 58 K n := by
  induction n using Nat.strongRecOn with
  | _ n ih =>
    by_cases h0 : n = 0
    · exact ⟨0, .inl rfl, by subst h0; decide⟩
    · obtain ⟨K, hK⟩ := ih (n / 58) (by omega)
      refine ⟨K + 1, .inr ?_, ?_⟩
      · rw [Nat.add_sub_cancel]
        rcases hK.1 with h | h
        · subst h
          simp
          omega
        · by_cases hk : K = 0
          · subst hk; simp; omega
          · obtain ⟨k, rfl⟩ : ∃ k, K = k + 1 := ⟨K - 1, by omega⟩
            rw [Nat.add_sub_cancel] at h
            rw [Nat.pow_succ]
            have := Nat.div_mul_le_self n 58
            exact Nat.le_trans (Nat.mul_le_mul_right 58 h) this
      · rw [Nat.pow_succ]
        have := hK.2
        omega

theorem Can.le_of_lt {K S n : Nat} (h : Can 58 K n) (hn : n < 58 ^ S) : K ≤ S := by
  rcases h.1 with h0 | h0
  · omega
  · rcases Nat.lt_or_ge S K with h1 | h1
    · have : 58 ^ S ≤ 58 ^ (K - 1) := Nat.pow_le_pow_right (by decide) (by omega)
      omega
    · exact h1

theorem room58 (m : Nat) : 256 ^ m ≤ 58 ^ (m * 138 / 100 + 1) := by
  have key : (256 : Nat) ^ 100 ≤ 58 ^ 138 := by decide
  have h1 : (256 ^ m) ^ 100 ≤ (58 ^ (m * 138 / 100 + 1)) ^ 100 := by
    rw [← Nat.pow_mul, ← Nat.pow_mul, Nat.mul_comm m 100, Nat.pow_mul]
    refine Nat.le_trans (Nat.pow_le_pow_left key m) ?_
    rw [← Nat.pow_mul]
    exact Nat.pow_le_pow_right (by decide) (by omega)
  rcases Nat.lt_or_ge (58 ^ (m * 138 / 100 + 1)) (256 ^ m) with h | h
  · exact absurd h1 (Nat.not_le.2 (Nat.pow_lt_pow_left h (by decide)))
  · exact h

theorem bnum_drop_lz (l : List UInt8) (i : Nat) (hi : lz l ≤ i) (hl : i ≤ l.length) : bnum (l.take i) < 256 ^ (i - lz l) := by
  have key : ∀ (l : List UInt8) (i : Nat), lz l ≤ i → i ≤ l.length → bnum (l.take i) < 256 ^ (i - lz l) := by
    intro l
    induction l with
    | nil => intro i _ h; simp at h; subst h; decide
    | cons x r ih =>
      intro i h1 h2
      match i, h1, h2 with
      | 0, h1, h2 => simp [bnum, num]
      | i + 1, h1, h2 =>
        by_cases hx : x = 0
        · subst hx
          have e1 : bnum ((0 :: r).take (i + 1)) = bnum (r.take i) := by
            unfold bnum num
            simp
          have e2 : lz (0 :: r) = lz r + 1 := by simp [lz]
          rw [e1, e2, show i + 1 - (lz r + 1) = i - lz r from by omega]
          exact ih i (by rw [e2] at h1; omega) (by simpa using h2)
        · have e2 : lz (x :: r) = 0 := by unfold lz; rw [if_neg hx]
          rw [e2, Nat.sub_zero]
          have h := bnum_lt ((x :: r).take (i + 1))
          rw [List.length_take, Nat.min_eq_left h2] at h
          exact h
  exact key l i hi hl

/-- The digits of N, the last t of them those of M. -/
def mxF (S N M t p : Nat) : Nat := if p + t < S then N / 58 ^ (S - 1 - p) % 58 else M / 58 ^ (S - 1 - p) % 58
/-- .. behind z other cells. -/
def Gd (z S N M t i : Nat) : Nat := if i < z then 0 else mxF S N M t (i - z)

theorem Gd_zero (z S i : Nat) : Gd z S 0 0 0 i = 0 := by
  unfold Gd mxF
  split
  · rfl
  · split <;> simp
theorem Gd_at (z S N M t : Nat) (h : t < S) : Gd z S N M t (z + (S - 1 - t)) = N / 58 ^ t % 58 := by
  unfold Gd mxF
  rw [if_neg (by omega), Nat.add_sub_cancel_left, if_pos (by omega), show S - 1 - (S - 1 - t) = t from by omega]
theorem Gd_set (z S N M t i : Nat) (h : t < S) (hi : i < z + S) : updF (Gd z S N M t) (z + (S - 1 - t)) (M / 58 ^ t % 58) i = Gd z S N M (t + 1) i := by
  unfold updF Gd mxF
  by_cases h1 : i = z + (S - 1 - t)
  · subst h1
    rw [if_pos rfl, if_neg (by omega), Nat.add_sub_cancel_left, if_neg (by omega), show S - 1 - (S - 1 - t) = t from by omega]
  · rw [if_neg h1]
    by_cases h2 : i < z
    · rw [if_pos h2, if_pos h2]
    · rw [if_neg h2, if_neg h2]
      by_cases h3 : i - z + t < S
      · rw [if_pos h3, if_pos (by omega)]
      · rw [if_neg h3, if_neg (by omega)]
theorem Gd_end (z S N M t i : Nat) (hN : N < 58 ^ t) (hM : M < 58 ^ t) (_hi : i < z + S) : Gd z S N M t i = Gd z S M M 0 i := by
  unfold Gd mxF
  by_cases h2 : i < z
  · rw [if_pos h2, if_pos h2]
  · rw [if_neg h2, if_neg h2]
    by_cases h3 : i - z + t < S
    · have hp : (58 : Nat) ^ t ≤ 58 ^ (S - 1 - (i - z)) := Nat.pow_le_pow_right (by decide) (by omega)
      rw [if_pos h3, if_pos (by omega), Nat.div_eq_of_lt (by omega), Nat.div_eq_of_lt (by omega)]
    · rw [if_neg h3]
      split <;> rfl
theorem Gd_same (z S N i : Nat) (hi : z ≤ i) (_h2 : i < z + S) : Gd z S N N 0 i = N / 58 ^ (S - 1 - (i - z)) % 58 := by
  unfold Gd mxF
  rw [if_neg (by omega)]
  split <;> rfl

end Go.Proofs.YtilngifollpoeaaGreatFmt

/- Small sums of bytes; the length of a slice value. -/
namespace Go.Proofs.YtilngifollpoeaaGreatFmt

/-- The length of a slice value. -/
def sLen : Value → Nat
  | .slice _ n _ => n
  | _ => 0

theorem u8w (x : Int) : IntKind.u8.wrap x = x % 256 := by simp [IntKind.wrap, IntKind.bits, IntKind.signed]
section
variable {x y : Int}
theorem u8a31 (h0 : 0 ≤ x) (h1 : x < 256) : bits .and .u8 x 31 = x % 32 := bits_mask .u8 8 (by decide) wraps_u8 5 (by decide) x h0 h1
theorem u8lo1 (hy₀ : 0 ≤ y) (hy : y < 2) (hx₀ : 0 ≤ x) (hx : x % 2 = 0) (hx₁ : x < 256) : bits .or .u8 y x = y + x := bits_join_low .u8 8 (by decide) wraps_u8 1 y x hy₀ hy (by omega) hx₀ hx hx₁
theorem u8ho1 (hx₀ : 0 ≤ x) (hx : x % 2 = 0) (hx₁ : x < 256) (hy₀ : 0 ≤ y) (hy : y < 2) : bits .or .u8 x y = x + y := bits_join .u8 8 (by decide) wraps_u8 1 x y hx₀ hx hx₁ hy₀ hy (by omega)
theorem u8lo2 (hy₀ : 0 ≤ y) (hy : y < 4) (hx₀ : 0 ≤ x) (hx : x % 4 = 0) (hx₁ : x < 256) : bits .or .u8 y x = y + x := bits_join_low .u8 8 (by decide) wraps_u8 2 y x hy₀ hy (by omega) hx₀ hx hx₁
theorem u8ho2 (hx₀ : 0 ≤ x) (hx : x % 4 = 0) (hx₁ : x < 256) (hy₀ : 0 ≤ y) (hy : y < 4) : bits .or .u8 x y = x + y := bits_join .u8 8 (by decide) wraps_u8 2 x y hx₀ hx hx₁ hy₀ hy (by omega)
theorem u8lo3 (hy₀ : 0 ≤ y) (hy : y < 8) (hx₀ : 0 ≤ x) (hx : x % 8 = 0) (hx₁ : x < 256) : bits .or .u8 y x = y + x := bits_join_low .u8 8 (by decide) wraps_u8 3 y x hy₀ hy (by omega) hx₀ hx hx₁
theorem u8ho3 (hx₀ : 0 ≤ x) (hx : x % 8 = 0) (hx₁ : x < 256) (hy₀ : 0 ≤ y) (hy : y < 8) : bits .or .u8 x y = x + y := bits_join .u8 8 (by decide) wraps_u8 3 x y hx₀ hx hx₁ hy₀ hy (by omega)
theorem u8lo4 (hy₀ : 0 ≤ y) (hy : y < 16) (hx₀ : 0 ≤ x) (hx : x % 16 = 0) (hx₁ : x < 256) : bits .or .u8 y x = y + x := bits_join_low .u8 8 (by decide) wraps_u8 4 y x hy₀ hy (by omega) hx₀ hx hx₁
theorem u8ho4 (hx₀ : 0 ≤ x) (hx : x % 16 = 0) (hx₁ : x < 256) (hy₀ : 0 ≤ y) (hy : y < 16) : bits .or .u8 x y = x + y := bits_join .u8 8 (by decide) wraps_u8 4 x y hx₀ hx hx₁ hy₀ hy (by omega)
theorem u8lo5 (hy₀ : 0 ≤ y) (hy : y < 32) (hx₀ : 0 ≤ x) (hx : x % 32 = 0) (hx₁ : x < 256) : bits .or .u8 y x = y + x := bits_join_low .u8 8 (by decide) wraps_u8 5 y x hy₀ hy (by omega) hx₀ hx hx₁
theorem u8ho5 (hx₀ : 0 ≤ x) (hx : x % 32 = 0) (hx₁ : x < 256) (hy₀ : 0 ≤ y) (hy : y < 32) : bits .or .u8 x y = x + y := bits_join .u8 8 (by decide) wraps_u8 5 x y hx₀ hx hx₁ hy₀ hy (by omega)
theorem u8lo6 (hy₀ : 0 ≤ y) (hy : y < 64) (hx₀ : 0 ≤ x) (hx : x % 64 = 0) (hx₁ : x < 256) : bits .or .u8 y x = y + x := bits_join_low .u8 8 (by decide) wraps_u8 6 y x hy₀ hy (by omega) hx₀ hx hx₁
theorem u8ho6 (hx₀ : 0 ≤ x) (hx : x % 64 = 0) (hx₁ : x < 256) (hy₀ : 0 ≤ y) (hy : y < 64) : bits .or .u8 x y = x + y := bits_join .u8 8 (by decide) wraps_u8 6 x y hx₀ hx hx₁ hy₀ hy (by omega)
theorem u8lo7 (hy₀ : 0 ≤ y) (hy : y < 128) (hx₀ : 0 ≤ x) (hx : x % 128 = 0) (hx₁ : x < 256) : bits .or .u8 y x = y + x := bits_join_low .u8 8 (by decide) wraps_u8 7 y x hy₀ hy (by omega) hx₀ hx hx₁
theorem u8ho7 (hx₀ : 0 ≤ x) (hx : x % 128 = 0) (hx₁ : x < 256) (hy₀ : 0 ≤ y) (hy : y < 128) : bits .or .u8 x y = x + y := bits_join .u8 8 (by decide) wraps_u8 7 x y hx₀ hx hx₁ hy₀ hy (by omega)
end
end Go.Proofs.YtilngifollpoeaaGreatFmt

/- Words for the walks: a slice that reads as bytes, a block that is known whole; nothing of the program stands here. -/
namespace Go.Proofs.YtilngifollpoeaaGreatFmt
open Go.RowKit

/-- A number as the cell of a byte. -/
abbrev u8 (b : UInt8) : Value := .int .u8 (b.toNat : Int)

/-- The cells from (b, o) on hold the bytes l. -/
def RdAt (w : World) (b o : Nat) (l : List UInt8) : Prop := ∀ (j : Nat) (x : UInt8), l[j]? = some x → w.cell? ⟨b, o + j, none⟩ = some (.int .u8 (x.toNat : Int))

/-- A slice value whose bytes are l: not nil, in a block below B. -/
def Rd (w : World) (B : Nat) (v : Value) (l : List UInt8) : Prop :=
  ∃ b o c, v = .slice (some ⟨b, o, none⟩) l.length c ∧ b < B ∧ l.length ≤ c ∧ c ≤ maxLen ∧ RdAt w b o l

section
variable {w w' : World} {B B' b o : Nat} {v : Value} {l : List UInt8}

theorem RdAt.below (h : RdAt w b o l) (hB : Below B w w') (hb : b < B) : RdAt w' b o l := fun j x hx => (hB.cell (p := ⟨b, o + j, none⟩) hb).trans (h j x hx)
theorem RdAt.drop (h : RdAt w b o l) (k : Nat) : RdAt w b (o + k) (l.drop k) := fun j x hx => by
  rw [Nat.add_assoc]
  exact h (k + j) x (by rw [← hx, List.getElem?_drop])
theorem RdAt.take (h : RdAt w b o l) (k : Nat) : RdAt w b o (l.take k) := fun j x hx => by
  rw [List.getElem?_take] at hx
  split at hx
  · exact h j x hx
  · cases hx
theorem RdAt.nil (w : World) (b o : Nat) : RdAt w b o [] := fun j x hx => by simp at hx
theorem RdAt.at_ (h : RdAt w b o l) {k : Nat} (hk : k < l.length) : w.cell? ⟨b, o + k, none⟩ = some (.int .u8 ((l[k]).toNat : Int)) := h k _ (List.getElem?_eq_getElem hk)

theorem Rd.below (h : Rd w B v l) (hB : Below B w w') : Rd w' B v l := by
  obtain ⟨b, o, c, e, hb, h1, h2, h3⟩ := h
  exact ⟨b, o, c, e, hb, h1, h2, h3.below hB hb⟩
theorem Rd.more (h : Rd w B v l) (hB : B ≤ B') : Rd w B' v l := by
  obtain ⟨b, o, c, e, hb, h1, h2, h3⟩ := h
  exact ⟨b, o, c, e, by omega, h1, h2, h3⟩
/-- On to a later world: what stood below the old heap's size stands there. -/
theorem Rd.on (h : Rd w w.heap.size v l) (hB : Below w.heap.size w w') : Rd w' w'.heap.size v l := (h.below hB).more hB.size
end

/-- Cells and marks below the size are as they were. -/
theorem bcell {W w1 : World} (hb : Below W.heap.size W w1) : (∀ b o, b < W.heap.size → w1.cell? ⟨b, o, none⟩ = W.cell? ⟨b, o, none⟩) ∧ (∀ b o, b < W.heap.size → w1.frozen? ⟨b, o, none⟩ = W.frozen? ⟨b, o, none⟩) :=
  ⟨fun b o h => hb.cell (p := ⟨b, o, none⟩) h, fun b o h => hb.frozen (p := ⟨b, o, none⟩) h⟩

theorem below_drewN {B : Nat} {a w : World} (h : Below B a w) (n : Nat) : Below B a (w.drewN n) := ⟨h.os, h.tape, h.output, h.size, h.block⟩

/-- Two calls, one behind the other. -/
theorem Below.then_ {a b c : World} (h : Below a.heap.size a b) (k : Below b.heap.size b c) : Below a.heap.size a c := h.trans (k.mono h.size)

/-- A block that is known whole, none of it frozen. -/
def Blk (w : World) (g : Nat) (t : TypeId) (cs : Array Value) : Prop := w.heap[g]? = some (.cells cs t (0, 0))

section
variable {w w' : World} {g : Nat} {t : TypeId} {cs : Array Value}
theorem Blk.lt (h : Blk w g t cs) : g < w.heap.size := by
  rcases Nat.lt_or_ge g w.heap.size with hlt | hge
  · exact hlt
  · unfold Blk at h; rw [Array.getElem?_eq_none hge] at h; cases h
theorem Blk.cell (h : Blk w g t cs) (i : Nat) : w.cell? ⟨g, i, none⟩ = cs[i]? := cell_of_row w g i cs t (0, 0) h
theorem Blk.frozen (h : Blk w g t cs) (i : Nat) : w.frozen? ⟨g, i, none⟩ = false := by
  unfold Blk at h
  simp [World.frozen?, h]
theorem Blk.new (w : World) (t : TypeId) (cs : Array Value) : Blk (w.alloc (.cells cs t)) w.heap.size t cs := heap_alloc_new w _
theorem Blk.drew (h : Blk w g t cs) : Blk w.drew g t cs := h
theorem Blk.drewN (h : Blk w g t cs) (n : Nat) : Blk (w.drewN n) g t cs := h
theorem Blk.alloc (h : Blk w g t cs) (o : Obj) : Blk (w.alloc o) g t cs := (Below.heap_alloc w o g h.lt).trans h
theorem Blk.set_ (h : Blk w g t cs) (i : Nat) (u : Value) : Blk (w.setCell ⟨g, i, none⟩ u) g t (cs.setIfInBounds i u) := by
  unfold Blk at h ⊢
  simp [World.setCell, Array.getElem?_modify, h]
theorem Blk.far (h : Blk w g t cs) {p : Addr} (hp : g ≠ p.block) (u : Value) : Blk (w.setCell p u) g t cs := (Below.heap_setCell w p u g hp).trans h
theorem Blk.below {B : Nat} (h : Blk w g t cs) (hb : Below B w w') (hg : g < B) : Blk w' g t cs := (hb.block g hg).trans h
theorem Blk.on (h : Blk w g t cs) (hb : Below w.heap.size w w') : Blk w' g t cs := h.below hb h.lt
theorem Blk.grown {row : Option Nat} (h : Blk w g t cs) (hb : w.grownBy w' row) (hg : some g ≠ row) : Blk w' g t cs := (hb.block g h.lt hg).trans h
/-- Bytes in a block that is known whole. -/
theorem Blk.rd (h : Blk w g t cs) (o : Nat) (l : List UInt8) (hl : ∀ (j : Nat) (x : UInt8), l[j]? = some x → cs[o + j]? = some (.int .u8 (x.toNat : Int))) : RdAt w g o l := fun j x hx => (h.cell _).trans (hl j x hx)
end

theorem results_tmp4 {fn : Func} {t u v x : Tmp} (h : fn.results = #[.tmp t, .tmp u, .tmp v, .tmp x]) (tmps : Array Value) (P : Program) (w : World) :
    (results fn tmps).run P w = .ok (.tuple #[tmps.getD t undef, tmps.getD u undef, tmps.getD v undef, tmps.getD x undef]) w := by simp [results, h]

end Go.Proofs.YtilngifollpoeaaGreatFmt

/- A row of bytes cell by cell, none of them frozen. -/
namespace Go.Proofs.YtilngifollpoeaaGreatFmt
open Go.RowKit

/-- The cells 0 .. m - 1 of the block D hold the bytes F 0 .. F (m - 1) and may be written. -/
def Row (w : World) (D m : Nat) (F : Nat → Nat) : Prop := ∀ i, i < m → w.cell? ⟨D, i, none⟩ = some (.int .u8 ((F i : Nat) : Int)) ∧ w.frozen? ⟨D, i, none⟩ = false

section
variable {w w' : World} {D m B : Nat} {F : Nat → Nat}
theorem Row.cell (h : Row w D m F) {i : Nat} (hi : i < m) : w.cell? ⟨D, i, none⟩ = some (.int .u8 ((F i : Nat) : Int)) := (h i hi).1
theorem Row.frozen (h : Row w D m F) {i : Nat} (hi : i < m) : w.frozen? ⟨D, i, none⟩ = false := (h i hi).2
theorem Row.set_ (h : Row w D m F) {i : Nat} (hi : i < m) (v : Nat) : Row (w.setCell ⟨D, i, none⟩ (.int .u8 (v : Int))) D m (updF F i v) := by
  intro j hj
  refine ⟨?_, by rw [World.frozen?_setCell]; exact h.frozen hj⟩
  unfold updF
  by_cases e : j = i
  · subst e
    rw [if_pos rfl]
    exact World.cell?_setCell_same _ _ _ (h.cell hj)
  · rw [if_neg e]
    refine Eq.trans (World.cell?_setCell_other _ _ _ _ (fun e2 => e ?_)) (h.cell hj)
    injection e2 with e3 e4
    exact e4.symm
theorem Row.below (h : Row w D m F) (hb : Below B w w') (hD : D < B) : Row w' D m F := fun i hi => ⟨(hb.cell (p := ⟨D, i, none⟩) hD).trans (h.cell hi), (hb.frozen (p := ⟨D, i, none⟩) hD).trans (h.frozen hi)⟩
theorem Row.ext (h : Row w D m F) {G : Nat → Nat} (e : ∀ i, i < m → F i = G i) : Row w D m G := fun i hi => by
  rw [← e i hi]
  exact h i hi
theorem Row.less (h : Row w D m F) {k : Nat} (hk : k ≤ m) : Row w D k F := fun i hi => h i (by omega)
theorem Row.drewN (h : Row w D m F) (n : Nat) : Row (w.drewN n) D m F := h
theorem Row.drew (h : Row w D m F) : Row w.drew D m F := h
theorem Row.rd (h : Row w D m F) {l : List UInt8} (hl : l.length ≤ m) (e : ∀ i x, l[i]? = some x → F i = x.toNat) : RdAt w D 0 l := fun j x hx => by
  have hj : j < l.length := (List.getElem?_eq_some_iff.1 hx).1
  rw [Nat.zero_add, h.cell (by omega), e j x hx]
theorem Row.ofRd {l : List UInt8} (h : RdAt w D 0 l) (hf : ∀ i, i < l.length → w.frozen? ⟨D, i, none⟩ = false) : Row w D l.length (fun i => (l.getD i 0).toNat) := fun i hi => by
  refine ⟨?_, hf i hi⟩
  have h2 := h i l[i] (List.getElem?_eq_getElem hi)
  rw [Nat.zero_add] at h2
  rw [h2]
  simp only [List.getD_eq_getElem?_getD, List.getElem?_eq_getElem hi, Option.getD_some]
end
theorem Row.zero8 (w : World) (t : TypeId) : Row (w.alloc (.cells #[.int .u8 0, .int .u8 0, .int .u8 0, .int .u8 0, .int .u8 0, .int .u8 0, .int .u8 0, .int .u8 0] t)) w.heap.size 8 (fun _ => 0) := fun i hi => by
  refine ⟨((Blk.new w t _).cell i).trans ?_, (Blk.new w t _).frozen i⟩
  have h : i = 0 ∨ i = 1 ∨ i = 2 ∨ i = 3 ∨ i = 4 ∨ i = 5 ∨ i = 6 ∨ i = 7 := by omega
  rcases h with rfl | rfl | rfl | rfl | rfl | rfl | rfl | rfl <;> rfl
end Go.Proofs.YtilngifollpoeaaGreatFmt
