/- The plain laws on adding up columns over GF(2): no Go in sight. -/
import GoSem.Core.Value
namespace Go.Proofs.Ybulkbalw

/-- The columns of the set bits below k, added up over GF(2). -/
def acc (m : Nat → Nat) (v : Nat) : Nat → Nat
  | 0 => 0
  | k + 1 => if v.testBit k = true then acc m v k ^^^ m k else acc m v k

theorem testBit_div (v k : Nat) : v.testBit k = decide (v / 2 ^ k % 2 = 1) := by
  rw [Nat.testBit_eq_decide_div_mod_eq]
theorem acc_lt {m : Nat → Nat} {v : Nat} (hm : ∀ j, j < 32 → m j < 4294967296) : ∀ k, k ≤ 32 → acc m v k < 4294967296
  | 0, _ => by simp [acc]
  | k + 1, h => by
    have ih := acc_lt (v := v) hm k (by omega)
    unfold acc
    split
    · exact Nat.xor_lt_two_pow (n := 32) ih (hm k (by omega))
    · exact ih
theorem acc_one {m : Nat → Nat} {v k : Nat} (h : v / 2 ^ k % 2 = 1) : acc m v (k + 1) = acc m v k ^^^ m k := by
  rw [acc, if_pos (by rw [testBit_div, h]; rfl)]
theorem acc_none {m : Nat → Nat} {v k : Nat} (h : ¬ v / 2 ^ k % 2 = 1) : acc m v (k + 1) = acc m v k := by
  rw [acc, if_neg (by rw [testBit_div]; simpa using h)]
theorem div_step (v k : Nat) : v / 2 ^ (k + 1) = v / 2 ^ k / 2 := by rw [Nat.pow_succ, Nat.div_div_eq_div_mul]
theorem div_zero_le {v k j : Nat} (h : v / 2 ^ k = 0) (hj : k ≤ j) : v / 2 ^ j = 0 := by
  rw [Nat.div_eq_zero_iff] at h ⊢
  rcases h with h | h
  · exact absurd h (by have := Nat.two_pow_pos k; omega)
  · exact .inr (Nat.lt_of_lt_of_le h (Nat.pow_le_pow_right (by omega) hj))
/-- Where no bit is left, nothing more is added. -/
theorem acc_done {m : Nat → Nat} {v k : Nat} (h : v / 2 ^ k = 0) : ∀ j, acc m v (k + j) = acc m v k
  | 0 => rfl
  | j + 1 => by
    rw [← Nat.add_assoc, acc_none (by rw [div_zero_le h (by omega)]; decide), acc_done h j]
theorem acc_full {m : Nat → Nat} {v k : Nat} (h : v / 2 ^ k = 0) (hk : k ≤ 32) : acc m v 32 = acc m v k := by
  have := acc_done (m := m) h (32 - k)
  rwa [show k + (32 - k) = 32 by omega] at this
theorem left_below {v k : Nat} (hv : v < 4294967296) (h : ¬ v / 2 ^ k = 0) : k < 32 := by
  rcases Nat.lt_or_ge k 32 with hk | hk
  · exact hk
  · exact absurd (div_zero_le (k := 32) (Nat.div_eq_of_lt hv) hk) h

/-- Bit by bit, for columns of one bit each. -/
theorem acc_pow_testBit (s : Nat → Nat) (v j : Nat) : ∀ k, (∀ a b, a < k → b < k → s a = s b → a = b) → (acc (fun i => 2 ^ s i) v k).testBit j = decide (∃ i, i < k ∧ s i = j ∧ v.testBit i = true)
  | 0, _ => by simp [acc]
  | k + 1, hs => by
    have ih := acc_pow_testBit s v j k (fun a b ha hb => hs a b (by omega) (by omega))
    by_cases hb : v.testBit k = true
    · rw [acc, if_pos hb, Nat.testBit_xor, ih, Nat.testBit_two_pow]
      by_cases hk : s k = j
      · have hno : ¬ ∃ i, i < k ∧ s i = j ∧ v.testBit i = true := by
          rintro ⟨i, hi, he, _⟩
          have := hs i k (by omega) (by omega) (by rw [he, hk])
          omega
        rw [decide_eq_false hno, decide_eq_true hk, decide_eq_true ⟨k, by omega, hk, hb⟩]
        rfl
      · rw [decide_eq_false hk, Bool.xor_false]
        congr 1
        apply propext
        constructor
        · rintro ⟨i, hi, h⟩
          exact ⟨i, by omega, h⟩
        · rintro ⟨i, hi, he, h⟩
          refine ⟨i, ?_, he, h⟩
          rcases Nat.lt_or_ge i k with h' | h'
          · exact h'
          · obtain rfl : i = k := by omega
            exact absurd he hk
    · rw [acc, if_neg hb, ih]
      congr 1
      apply propext
      constructor
      · rintro ⟨i, hi, h⟩
        exact ⟨i, by omega, h⟩
      · rintro ⟨i, hi, he, h⟩
        refine ⟨i, ?_, he, h⟩
        rcases Nat.lt_or_ge i k with h' | h'
        · exact h'
        · obtain rfl : i = k := by omega
          exact absurd h hb

/-- The identity matrix fixes v. -/
theorem acc_id {v : Nat} (hv : v < 4294967296) : acc (fun i => 2 ^ i) v 32 = v := by
  apply Nat.eq_of_testBit_eq
  intro j
  rw [acc_pow_testBit (fun i => i) v j 32 (fun a b _ _ h => h)]
  by_cases h : v.testBit j = true
  · rw [h, decide_eq_true]
    refine ⟨j, ?_, rfl, h⟩
    rcases Nat.lt_or_ge j 32 with hj | hj
    · exact hj
    · rw [Nat.testBit_lt_two_pow (Nat.lt_of_lt_of_le hv (Nat.pow_le_pow_right (by omega) hj : 2 ^ 32 ≤ 2 ^ j))] at h
      cases h
  · have hf : v.testBit j = false := by simpa using h
    rw [hf, decide_eq_false]
    rintro ⟨i, _, rfl, h2⟩
    exact h h2
/-- The matrix whose column i is bit i + 1 (mod 32) rotates v left by one. -/
theorem acc_rot {v : Nat} (hv : v < 4294967296) : acc (fun i => 2 ^ ((i + 1) % 32)) v 32 = (v * 2) % 4294967296 ||| v / 2147483648 := by
  have hi : ∀ i, 32 ≤ i → v.testBit i = false := fun i h => Nat.testBit_lt_two_pow (Nat.lt_of_lt_of_le hv (Nat.pow_le_pow_right (by omega) h : 2 ^ 32 ≤ 2 ^ i))
  apply Nat.eq_of_testBit_eq
  intro j
  rw [acc_pow_testBit (fun i => (i + 1) % 32) v j 32 (fun a b _ _ h => by omega), Nat.testBit_or]
  rw [show (4294967296 : Nat) = 2 ^ 32 from rfl, Nat.testBit_mod_two_pow, show v * 2 = 2 ^ 1 * v by omega, Nat.testBit_two_pow_mul, show v / 2147483648 = v >>> 31 by rw [Nat.shiftRight_eq_div_pow], Nat.testBit_shiftRight]
  by_cases hj : j = 0
  · subst hj
    simp only [Nat.add_zero]
    by_cases h : v.testBit 31 = true
    · rw [h, decide_eq_true ⟨31, by omega, by omega, h⟩]
      simp
    · have hf : v.testBit 31 = false := by simpa using h
      rw [hf, decide_eq_false]
      · simp
      · rintro ⟨i, h1, h2, h3⟩
        have : i = 31 := by omega
        subst this
        exact h h3
  · rw [hi (31 + j) (by omega), Bool.or_false]
    by_cases h : v.testBit (j - 1) = true
    · rw [h]
      by_cases h32 : j < 32
      · rw [decide_eq_true ⟨j - 1, by omega, by omega, h⟩]
        simp [h32]
        omega
      · rw [decide_eq_false]
        · simp [h32]
        · rintro ⟨i, h1, h2, _⟩
          omega
    · have hf : v.testBit (j - 1) = false := by simpa using h
      rw [hf, decide_eq_false]
      · simp
      · rintro ⟨i, h1, h2, h3⟩
        have : i = j - 1 := by omega
        subst this
        exact h h3
/-- The image of bit i is column i. -/
theorem acc_bit (m : Nat → Nat) (i : Nat) : ∀ k, acc m (2 ^ i) k = if i < k then m i else 0
  | 0 => by simp [acc]
  | k + 1 => by
    rw [acc, acc_bit m i k, Nat.testBit_two_pow]
    by_cases h : i = k
    · subst h
      simp
    · rw [if_neg (by simpa using h)]
      by_cases h1 : i < k
      · rw [if_pos h1, if_pos (by omega)]
      · rw [if_neg h1, if_neg (by omega)]

end Go.Proofs.Ybulkbalw
