/- Plain numbers and lists, no program: digits of a number to a base in a fixed width and a long multiplication with an addend, digit by digit; leading zeros of bytes; base 32. -/
import Derived.Below
namespace Go.Proofs.YtncbaejandajbaaGreatFmt


/-- The k lowest digits of n to the base B, the most significant one first. -/
def fw (B : Nat) : Nat → Nat → List Nat
  | 0, _ => []
  | k + 1, n => fw B k (n / B) ++ [n % B]

theorem fw_len (B : Nat) : ∀ k n, (fw B k n).length = k
  | 0, _ => rfl
  | k + 1, n => by simp [fw, fw_len B k]

theorem fw_get (B : Nat) : ∀ (k n i : Nat), i < k → (fw B k n)[i]? = some (n / B ^ (k - 1 - i) % B)
  | 0, _, _, h => absurd h (by omega)
  | k + 1, n, i, h => by
    by_cases hi : i < k
    · rw [fw, List.getElem?_append_left (by rw [fw_len]; exact hi), fw_get B k (n / B) i hi, Nat.div_div_eq_div_mul, ← Nat.pow_succ']
      congr 4
      omega
    · have e : i = k := by omega
      subst e
      rw [fw, List.getElem?_append_right (by rw [fw_len]; exact Nat.le_refl _), fw_len]
      simp

theorem fw_cons (B : Nat) : ∀ (k n : Nat), fw B (k + 1) n = (n / B ^ k % B) :: fw B k n
  | 0, n => by simp [fw]
  | k + 1, n => by
    rw [fw, fw_cons B k (n / B), Nat.div_div_eq_div_mul, ← Nat.pow_succ', List.cons_append]
    rfl

theorem fw_drop (B : Nat) : ∀ (j k n : Nat), j ≤ k → (fw B k n).drop j = fw B (k - j) n
  | 0, k, n, _ => by simp
  | j + 1, 0, n, h => absurd h (by omega)
  | j + 1, k + 1, n, h => by
    rw [fw_cons, List.drop_succ_cons, fw_drop B j k n (by omega)]
    congr 1
    omega

theorem fw_zero (B : Nat) : ∀ k, fw B k 0 = List.replicate k 0
  | 0 => rfl
  | k + 1 => by rw [fw_cons, fw_zero B k]; simp [List.replicate_succ]

theorem fw_lt (B : Nat) (hB : 0 < B) : ∀ (k n x : Nat), x ∈ fw B k n → x < B
  | 0, _, _, h => by simp [fw] at h
  | k + 1, n, x, h => by
    rw [fw, List.mem_append] at h
    rcases h with h | h
    · exact fw_lt B hB k _ x h
    · simp at h; subst h; exact Nat.mod_lt _ hB

/-- The upper digits of N, the t lowest ones of M. -/
def mix (B k N M t : Nat) : List Nat := (fw B k N).take (k - t) ++ fw B t M

theorem mix_len (B k N M t : Nat) (h : t ≤ k) : (mix B k N M t).length = k := by
  simp [mix, fw_len]; omega

theorem mix_start (B k N M : Nat) : mix B k N M 0 = fw B k N := by
  simp [mix, fw]
  rw [List.take_of_length_le (by rw [fw_len]; exact Nat.le_refl _)]

theorem mix_end (B k N M : Nat) : mix B k N M k = fw B k M := by simp [mix]

theorem mix_at (B k N M t : Nat) (h : t < k) : (mix B k N M t)[k - 1 - t]? = some (N / B ^ t % B) := by
  have e : k - 1 - (k - 1 - t) = t := by omega
  rw [mix, List.getElem?_append_left (by rw [List.length_take, fw_len]; omega), List.getElem?_take, if_pos (by omega), fw_get B k N _ (by omega), e]

theorem mix_set (B k N M t : Nat) (h : t < k) : (mix B k N M t).set (k - 1 - t) (M / B ^ t % B) = mix B k N M (t + 1) := by
  apply List.ext_getElem?
  intro i
  have hl : (mix B k N M t).length = k := mix_len _ _ _ _ _ (by omega)
  rw [List.getElem?_set, hl]
  by_cases hi : i < k
  · by_cases e : k - 1 - t = i
    · rw [if_pos e, if_pos (by omega)]
      rw [mix, List.getElem?_append_right (by rw [List.length_take, fw_len]; omega), List.length_take, fw_len, fw_get _ _ _ _ (by omega)]
      congr 4
      omega
    · rw [if_neg e]
      by_cases hlo : i < k - 1 - t
      · rw [mix, mix, List.getElem?_append_left (by rw [List.length_take, fw_len]; omega), List.getElem?_append_left (by rw [List.length_take, fw_len]; omega), List.getElem?_take, List.getElem?_take, if_pos (by omega), if_pos (by omega)]
      · rw [mix, mix, List.getElem?_append_right (by rw [List.length_take, fw_len]; omega), List.getElem?_append_right (by rw [List.length_take, fw_len]; omega), List.length_take, List.length_take, fw_len, fw_get _ _ _ _ (by omega), fw_get _ _ _ _ (by omega)]
        congr 4
        omega
  · rw [if_neg (by omega), List.getElem?_eq_none (by omega), List.getElem?_eq_none (by rw [mix_len _ _ _ _ _ (by omega)]; omega)]

/-- What is carried on behind the t lowest digits, where a number N is multiplied by m and c is added. -/
def car (B m N c t : Nat) : Nat := (m * (N % B ^ t) + c) / B ^ t

theorem car_start (B m N c : Nat) : car B m N c 0 = c := by simp [car, Nat.mod_one]

theorem car_digit (B m N c t : Nat) (hB : 0 < B) : (car B m N c t + m * (N / B ^ t % B)) % B = (m * N + c) / B ^ t % B := by
  have hP : 0 < B ^ t := Nat.pow_pos hB
  unfold car
  generalize B ^ t = P at hP ⊢
  have e1 : m * N + c = P * (m * (N / P)) + (m * (N % P) + c) := by
    conv => lhs; rw [← Nat.div_add_mod N P, Nat.mul_add]
    rw [Nat.add_assoc, Nat.mul_left_comm]
  rw [e1, Nat.mul_add_div hP]
  generalize (m * (N % P) + c) / P = C
  have e2 : m * (N / P) + C = (C + m * (N / P % B)) + B * (m * (N / P / B)) := by
    conv => lhs; rw [← Nat.div_add_mod (N / P) B, Nat.mul_add]
    rw [Nat.mul_left_comm m B]
    omega
  rw [e2, Nat.add_mul_mod_self_left]

theorem car_next (B m N c t : Nat) (hB : 0 < B) : (car B m N c t + m * (N / B ^ t % B)) / B = car B m N c (t + 1) := by
  have hP : 0 < B ^ t := Nat.pow_pos hB
  unfold car
  rw [Nat.pow_succ, Nat.mod_mul, ← Nat.div_div_eq_div_mul]
  generalize B ^ t = P at hP ⊢
  congr 1
  have e : m * (N % P + P * (N / P % B)) + c = (m * (N % P) + c) + P * (m * (N / P % B)) := by
    rw [Nat.mul_add, Nat.mul_left_comm m P]
    omega
  rw [e, Nat.add_mul_div_left _ _ hP, Nat.add_comm]

theorem car_end (B m N c t : Nat) (hN : N < B ^ t) : car B m N c t = (m * N + c) / B ^ t := by
  unfold car
  rw [Nat.mod_eq_of_lt hN]

theorem car_le (B m N c t : Nat) (hB : 0 < B) (hc : c < m) : car B m N c t < m := by
  have hP : 0 < B ^ t := Nat.pow_pos hB
  unfold car
  rw [Nat.div_lt_iff_lt_mul hP]
  have := Nat.mod_lt N hP
  have h2 : m * (N % B ^ t) + m ≤ m * B ^ t := by
    rw [← Nat.mul_succ]
    exact Nat.mul_le_mul_left _ this
  omega

/-- K digits are just those that a number has: no zero ahead. -/
def Can (B K n : Nat) : Prop := (K = 0 ∨ B ^ (K - 1) ≤ n) ∧ n < B ^ K

theorem Can.unique {B K K' n : Nat} (hB : 2 ≤ B) (h : Can B K n) (h' : Can B K' n) : K = K' := by
  have key : ∀ {a b : Nat}, Can B a n → Can B b n → ¬ a < b := by
    intro a b ha hb hlt
    rcases hb.1 with h0 | h0
    · omega
    · have : B ^ a ≤ B ^ (b - 1) := Nat.pow_le_pow_right (by omega) (by omega)
      have := ha.2
      omega
  have := key h h'
  have := key h' h
  omega

theorem Can.fw_eq {B K K' n : Nat} (hB : 2 ≤ B) (h : Can B K n) (h' : Can B K' n) : fw B K n = fw B K' n := by rw [h.unique hB h']

/-- A digit that is zero ahead of a number's first one can be struck. -/
theorem lt_of_digit_zero {B k n : Nat} (_hB : 0 < B) (h : n < B ^ (k + 1)) (h0 : n / B ^ k % B = 0) : n < B ^ k := by
  have h1 : n / B ^ k < B := by
    rw [Nat.div_lt_iff_lt_mul (Nat.pow_pos _hB)]
    rw [Nat.pow_succ, Nat.mul_comm] at h
    exact h
  rw [Nat.mod_eq_of_lt h1] at h0
  rcases (Nat.div_eq_zero_iff).1 h0 with h2 | h2
  · have := Nat.pow_pos (n := k) _hB
    omega
  · exact h2

theorem le_of_digit {B k n : Nat} (h0 : n / B ^ k % B ≠ 0) : B ^ k ≤ n := by
  rcases Nat.lt_or_ge n (B ^ k) with h | h
  · rw [Nat.div_eq_of_lt h] at h0
    simp at h0
  · exact h

/-- The number that bytes spell. -/
def num (l : List Nat) : Nat := l.foldl (fun a c => 256 * a + c) 0

theorem num_snoc (l : List Nat) (c : Nat) : num (l ++ [c]) = 256 * num l + c := by simp [num]

theorem num_lt : ∀ (n : Nat) (l : List Nat), l.length = n → (∀ x ∈ l, x < 256) → num l < 256 ^ n
  | 0, l, h, _ => by
    have : l = [] := List.eq_nil_of_length_eq_zero h
    subst this
    simp [num]
  | n + 1, l, h, hx => by
    have hne : l ≠ [] := by intro e; subst e; simp at h
    obtain ⟨l', c, rfl⟩ : ∃ l' c, l = l' ++ [c] := ⟨l.dropLast, l.getLast hne, (List.dropLast_concat_getLast hne).symm⟩
    rw [num_snoc, Nat.pow_succ]
    have h1 := num_lt n l' (by simpa using h) (fun x hx' => hx x (by simp [hx']))
    have h2 := hx c (by simp)
    omega

theorem num_zeros (z : Nat) (l : List Nat) : num (List.replicate z 0 ++ l) = num l := by
  have h : ∀ z, (List.replicate z 0).foldl (fun a c => 256 * a + c) 0 = 0 := by
    intro z
    induction z with
    | zero => rfl
    | succ z ih => simp [List.replicate_succ, ih]
  rw [num, List.foldl_append, h]
  rfl

/-- The digits to the base 256 of the number that bytes spell are the bytes. -/
theorem fw_num : ∀ (n : Nat) (l : List Nat), l.length = n → (∀ x ∈ l, x < 256) → fw 256 n (num l) = l
  | 0, l, h, _ => by
    have : l = [] := List.eq_nil_of_length_eq_zero h
    subst this
    rfl
  | n + 1, l, h, hx => by
    have hne : l ≠ [] := by intro e; subst e; simp at h
    obtain ⟨l', c, rfl⟩ : ∃ l' c, l = l' ++ [c] := ⟨l.dropLast, l.getLast hne, (List.dropLast_concat_getLast hne).symm⟩
    have h2 := hx c (by simp)
    rw [num_snoc, fw, Nat.mul_add_div (by omega), Nat.div_eq_of_lt h2, Nat.add_zero, fw_num n l' (by simpa using h) (fun x hx' => hx x (by simp [hx'])), Nat.mul_add_mod, Nat.mod_eq_of_lt h2]



theorem fw_get_zero {B k N M : Nat} (hN : N < B ^ M) {i : Nat} (hi : i + M < k) (hB : 0 < B) : (fw B k N)[i]? = some 0 := by
  rw [fw_get B k N i (by omega)]
  have h : N / B ^ (k - 1 - i) = 0 := Nat.div_eq_of_lt (Nat.lt_of_lt_of_le hN (Nat.pow_le_pow_right hB (by omega)))
  rw [h, Nat.zero_mod]

theorem fw_get_first {B k N M : Nat} (hB : 2 ≤ B) (h : Can B M N) (hM : 0 < M) (hk : M ≤ k) : ∃ d, (fw B k N)[k - M]? = some d ∧ d ≠ 0 := by
  refine ⟨_, fw_get B k N (k - M) (by omega), ?_⟩
  rcases h.1 with h0 | h0
  · omega
  · have e : k - 1 - (k - M) = M - 1 := by omega
    rw [e]
    have hlt : N / B ^ (M - 1) < B := by
      rw [Nat.div_lt_iff_lt_mul (Nat.pow_pos (by omega)), ← Nat.pow_succ']
      have e2 : (M - 1).succ = M := by omega
      rw [e2]
      exact h.2
    rw [Nat.mod_eq_of_lt hlt]
    have : 0 < N / B ^ (M - 1) := Nat.div_pos h0 (Nat.pow_pos (by omega))
    omega

/-- How many zeros stand ahead. -/
def lz : List UInt8 → Nat
  | [] => 0
  | x :: r => if x = 0 then lz r + 1 else 0

theorem lz_le : ∀ l : List UInt8, lz l ≤ l.length
  | [] => Nat.le_refl _
  | x :: r => by
    have := lz_le r
    unfold lz
    split <;> simp <;> omega

theorem lz_zero : ∀ (l : List UInt8) (i : Nat), i < lz l → l[i]? = some 0
  | [], i, h => by simp [lz] at h
  | x :: r, i, h => by
    unfold lz at h
    split at h
    · rename_i hx
      subst hx
      cases i with
      | zero => rfl
      | succ i => simpa using lz_zero r i (by omega)
    · omega

theorem lz_stop : ∀ (l : List UInt8) (x : UInt8), l[lz l]? = some x → x ≠ 0
  | [], x, h => by simp [lz] at h
  | y :: r, x, h => by
    unfold lz at h
    split at h
    · rename_i hy
      exact lz_stop r x (by simpa using h)
    · rename_i hy
      simp at h
      subst h
      exact hy

/-- The number that bytes spell. -/
def bnum (l : List UInt8) : Nat := num (l.map (·.toNat))

theorem bnum_snoc (l : List UInt8) (c : UInt8) : bnum (l ++ [c]) = 256 * bnum l + c.toNat := by
  unfold bnum
  rw [List.map_append, List.map_cons, List.map_nil, num_snoc]

theorem bnum_nil : bnum [] = 0 := rfl

theorem bnum_lt (l : List UInt8) : bnum l < 256 ^ l.length := by
  have h := num_lt (l.map (·.toNat)).length (l.map (·.toNat)) rfl (by
    intro x hx
    obtain ⟨y, _, rfl⟩ := List.mem_map.1 hx
    exact y.toNat_lt)
  rwa [List.length_map] at h

theorem fw_bnum (l : List UInt8) : fw 256 l.length (bnum l) = l.map (·.toNat) := by
  have h := fw_num l.length (l.map (·.toNat)) (by simp) (by
    intro x hx
    obtain ⟨y, _, rfl⟩ := List.mem_map.1 hx
    exact y.toNat_lt)
  exact h

theorem bnum_take_lz : ∀ (l : List UInt8) (i : Nat), i ≤ lz l → bnum (l.take i) = 0
  | l, 0, _ => by simp [bnum, num]
  | l, i + 1, h => by
    have hz := lz_zero l i (by omega)
    rw [List.take_add_one, hz]
    simp only [Option.toList_some]
    rw [bnum_snoc, bnum_take_lz l i (by omega)]
    rfl

theorem bnum_take_succ (l : List UInt8) (i : Nat) (c : UInt8) (h : l[i]? = some c) : bnum (l.take (i + 1)) = 256 * bnum (l.take i) + c.toNat := by
  rw [List.take_add_one, h]
  simp only [Option.toList_some]
  rw [bnum_snoc]

/-- What stands behind the zeros has just as many digits to the base 256 as bytes. -/
theorem can256 (l : List UInt8) : Can 256 (l.length - lz l) (bnum l) := by
  have hle := lz_le l
  have key : ∀ (k : Nat) (l : List UInt8), l.length = k → Can 256 (l.length - lz l) (bnum l) := by
    intro k
    induction k with
    | zero =>
      intro l hl
      have : l = [] := List.eq_nil_of_length_eq_zero hl
      subst this
      exact ⟨.inl rfl, by decide⟩
    | succ k ih =>
      intro l hl
      match l, hl with
      | x :: r, hl =>
        by_cases hx : x = 0
        · subst hx
          have e1 : bnum (0 :: r) = bnum r := by
            unfold bnum num
            simp
          have e2 : (0 :: r).length - lz (0 :: r) = r.length - lz r := by simp [lz]
          rw [e1, e2]
          exact ih r (by simpa using hl)
        · have e2 : lz (x :: r) = 0 := by unfold lz; rw [if_neg hx]
          rw [e2, Nat.sub_zero]
          refine ⟨.inr ?_, bnum_lt _⟩
          have hx0 : 1 ≤ x.toNat := by
            rcases Nat.eq_zero_or_pos x.toNat with h | h
            · exact absurd (UInt8.toNat_inj.1 (by simpa using h)) hx
            · exact h
          have hpos : bnum (x :: r) / 256 ^ r.length % 256 = x.toNat := by
            have h := fw_bnum (x :: r)
            rw [List.length_cons, fw_cons, List.map_cons, List.cons.injEq] at h
            exact h.1
          have := le_of_digit (B := 256) (k := r.length) (n := bnum (x :: r)) (by omega)
          simpa using this
  exact key _ l rfl



/-- The quintets of bytes. -/
def e32 : List Nat → List Nat
  | a :: b :: c :: d :: e :: r => [a / 8, a % 8 * 4 + b / 64, b / 2 % 32, b % 2 * 16 + c / 16, c % 16 * 2 + d / 128, d / 4 % 32, d % 4 * 8 + e / 32, e % 32] ++ e32 r
  | [a, b, c, d] => [a / 8, a % 8 * 4 + b / 64, b / 2 % 32, b % 2 * 16 + c / 16, c % 16 * 2 + d / 128, d / 4 % 32, d % 4 * 8]
  | [a, b, c] => [a / 8, a % 8 * 4 + b / 64, b / 2 % 32, b % 2 * 16 + c / 16, c % 16 * 2]
  | [a, b] => [a / 8, a % 8 * 4 + b / 64, b / 2 % 32, b % 2 * 16]
  | [a] => [a / 8, a % 8 * 4]
  | [] => []

/-- The bytes of quintets. -/
def d32 : List Nat → List Nat
  | q0 :: q1 :: q2 :: q3 :: q4 :: q5 :: q6 :: q7 :: r => [q0 * 8 + q1 / 4, q1 % 4 * 64 + q2 * 2 + q3 / 16, q3 % 16 * 16 + q4 / 2, q4 % 2 * 128 + q5 * 4 + q6 / 8, q6 % 8 * 32 + q7] ++ d32 r
  | [q0, q1, q2, q3, q4, q5, q6] => [q0 * 8 + q1 / 4, q1 % 4 * 64 + q2 * 2 + q3 / 16, q3 % 16 * 16 + q4 / 2, q4 % 2 * 128 + q5 * 4 + q6 / 8]
  | [q0, q1, q2, q3, q4] => [q0 * 8 + q1 / 4, q1 % 4 * 64 + q2 * 2 + q3 / 16, q3 % 16 * 16 + q4 / 2]
  | [q0, q1, q2, q3] => [q0 * 8 + q1 / 4, q1 % 4 * 64 + q2 * 2 + q3 / 16]
  | [q0, q1] => [q0 * 8 + q1 / 4]
  | _ => []

theorem d32_e32 : ∀ (l : List Nat), (∀ x ∈ l, x < 256) → d32 (e32 l) = l
  | a :: b :: c :: d :: e :: r, h => by
    have ha := h a (by simp); have hb := h b (by simp); have hc := h c (by simp); have hd := h d (by simp); have he := h e (by simp)
    have ih := d32_e32 r (fun x hx => h x (by simp [hx]))
    simp only [e32, List.cons_append, List.nil_append, d32, ih, List.cons.injEq, and_true]
    omega
  | [a, b, c, d], h => by
    have ha := h a (by simp); have hb := h b (by simp); have hc := h c (by simp); have hd := h d (by simp)
    simp only [e32, d32, List.cons.injEq, and_true]
    omega
  | [a, b, c], h => by
    have ha := h a (by simp); have hb := h b (by simp); have hc := h c (by simp)
    simp only [e32, d32, List.cons.injEq, and_true]
    omega
  | [a, b], h => by
    have ha := h a (by simp); have hb := h b (by simp)
    simp only [e32, d32, List.cons.injEq, and_true]
    omega
  | [a], h => by
    have ha := h a (by simp)
    simp only [e32, d32, List.cons.injEq, and_true]
    omega
  | [], _ => rfl

theorem e32_len : ∀ (l : List Nat), (e32 l).length = (l.length * 8 + 4) / 5
  | a :: b :: c :: d :: e :: r => by simp [e32, e32_len r]; omega
  | [a, b, c, d] => by simp [e32]
  | [a, b, c] => by simp [e32]
  | [a, b] => by simp [e32]
  | [a] => by simp [e32]
  | [] => by simp [e32]

theorem e32_lt : ∀ (l : List Nat), (∀ x ∈ l, x < 256) → ∀ q ∈ e32 l, q < 32
  | a :: b :: c :: d :: e :: r, h => by
    have ha := h a (by simp); have hb := h b (by simp); have hc := h c (by simp); have hd := h d (by simp); have he := h e (by simp)
    have ih := e32_lt r (fun x hx => h x (by simp [hx]))
    intro q hq
    simp only [e32, List.mem_append, List.mem_cons, List.not_mem_nil, or_false] at hq
    rcases hq with hq | hq
    · omega
    · exact ih q hq
  | [a, b, c, d], h => by
    have ha := h a (by simp); have hb := h b (by simp); have hc := h c (by simp); have hd := h d (by simp)
    intro q hq
    simp only [e32, List.mem_cons, List.not_mem_nil, or_false] at hq
    omega
  | [a, b, c], h => by
    have ha := h a (by simp); have hb := h b (by simp); have hc := h c (by simp)
    intro q hq
    simp only [e32, List.mem_cons, List.not_mem_nil, or_false] at hq
    omega
  | [a, b], h => by
    have ha := h a (by simp); have hb := h b (by simp)
    intro q hq
    simp only [e32, List.mem_cons, List.not_mem_nil, or_false] at hq
    omega
  | [a], h => by
    have ha := h a (by simp)
    intro q hq
    simp only [e32, List.mem_cons, List.not_mem_nil, or_false] at hq
    omega
  | [], _ => by intro q hq; simp [e32] at hq


end Go.Proofs.YtncbaejandajbaaGreatFmt
