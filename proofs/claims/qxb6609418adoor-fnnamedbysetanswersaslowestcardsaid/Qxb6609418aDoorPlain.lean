namespace Go.Proofs.Qxb6609418aDoor.Plain

theorem low_of (x z : Nat) (hx : x < 65536) (h : x % 2 ^ (z + 1) = 2 ^ z) : x &&& (65536 - x) = 2 ^ z := by
  have hp : 0 < 2 ^ z := Nat.two_pow_pos z
  have hp1 : 2 ^ (z + 1) = 2 * 2 ^ z := by rw [Nat.pow_succ]; omega
  have hx0 : 0 < x := by
    rcases Nat.eq_zero_or_pos x with e | e
    · subst e; simp at h; omega
    · exact e
  have hq : (x - 1) / 2 ^ (z + 1) = x / 2 ^ (z + 1) := by
    have h1 := Nat.div_add_mod x (2 ^ (z + 1))
    rw [h] at h1
    rw [show x - 1 = 2 ^ (z + 1) * (x / 2 ^ (z + 1)) + (2 ^ z - 1) by omega, Nat.mul_add_div (by omega), Nat.div_eq_of_lt (by omega : 2 ^ z - 1 < 2 ^ (z + 1))]
    omega
  apply Nat.eq_of_testBit_eq
  intro i
  rw [Nat.testBit_and, show 65536 - x = 2 ^ 16 - ((x - 1) + 1) by omega, Nat.testBit_two_pow_sub_succ (by omega), Nat.testBit_two_pow]
  rcases Nat.lt_trichotomy i z with hi | hi | hi
  · have : x.testBit i = false := by
      have e : (x % 2 ^ (z + 1)).testBit i = (decide (i < z + 1) && x.testBit i) := Nat.testBit_mod_two_pow x (z + 1) i
      rw [h, Nat.testBit_two_pow] at e
      simpa [show i < z + 1 by omega, show z ≠ i by omega] using e.symm
    simp [this, show z ≠ i by omega]
  · subst hi
    have e : (x % 2 ^ (i + 1)).testBit i = (decide (i < i + 1) && x.testBit i) := Nat.testBit_mod_two_pow x (i + 1) i
    rw [h, Nat.testBit_two_pow] at e
    have hxi : x.testBit i = true := by simpa using e.symm
    have hi16 : i < 16 := by
      rcases Nat.lt_or_ge i 16 with h1 | h1
      · exact h1
      · exact absurd hxi (by rw [Nat.testBit_lt_two_pow (Nat.lt_of_lt_of_le hx (by have := Nat.pow_le_pow_right (show 2 > 0 by omega) h1; simpa using this))]; simp)
    have hm : (x - 1) % 2 ^ (i + 1) = 2 ^ i - 1 := by
      have h1 := Nat.div_add_mod x (2 ^ (i + 1))
      rw [h] at h1
      rw [show x - 1 = 2 ^ (i + 1) * (x / 2 ^ (i + 1)) + (2 ^ i - 1) by omega, Nat.mul_add_mod, Nat.mod_eq_of_lt (by omega)]
    have e2 : ((x - 1) % 2 ^ (i + 1)).testBit i = (decide (i < i + 1) && (x - 1).testBit i) := Nat.testBit_mod_two_pow (x - 1) (i + 1) i
    rw [hm, Nat.testBit_lt_two_pow (by omega)] at e2
    have hf : (x - 1).testBit i = false := by simpa using e2.symm
    simp [hxi, hf, hi16]
  · have e : (x - 1).testBit i = x.testBit i := by
      rw [Nat.testBit_eq_decide_div_mod_eq, Nat.testBit_eq_decide_div_mod_eq]
      have h2 : ∀ y : Nat, y / 2 ^ i = y / 2 ^ (z + 1) / 2 ^ (i - (z + 1)) := fun y => by
        rw [Nat.div_div_eq_div_mul, ← Nat.pow_add]
        congr 2
        omega
      rw [h2 (x - 1), h2 x, hq]
    rw [e]
    simp [show z ≠ i by omega]
    exact fun a _ => a

theorem low_exists (x : Nat) (hx : x < 65536) (h : x &&& 127 ≠ 0) : ∃ z, z < 7 ∧ x &&& (65536 - x) = 2 ^ z := by
  have hm : x &&& 127 = x % 128 := Nat.and_two_pow_sub_one_eq_mod x 7
  rw [hm] at h
  have s1 : x % 2 = 1 ∨ x % 2 = 0 := by omega
  rcases s1 with h1 | h1
  · exact ⟨0, by omega, low_of x 0 hx h1⟩
  have s2 : x % 4 = 2 ∨ x % 4 = 0 := by omega
  rcases s2 with h2 | h2
  · exact ⟨1, by omega, low_of x 1 hx h2⟩
  clear h1
  have s3 : x % 8 = 4 ∨ x % 8 = 0 := by omega
  rcases s3 with h3 | h3
  · exact ⟨2, by omega, low_of x 2 hx h3⟩
  clear h2
  have s4 : x % 16 = 8 ∨ x % 16 = 0 := by omega
  rcases s4 with h4 | h4
  · exact ⟨3, by omega, low_of x 3 hx h4⟩
  clear h3
  have s5 : x % 32 = 16 ∨ x % 32 = 0 := by omega
  rcases s5 with h5 | h5
  · exact ⟨4, by omega, low_of x 4 hx h5⟩
  clear h4
  have s6 : x % 64 = 32 ∨ x % 64 = 0 := by omega
  rcases s6 with h6 | h6
  · exact ⟨5, by omega, low_of x 5 hx h6⟩
  clear h5
  have s7 : x % 128 = 64 := by omega
  exact ⟨6, by omega, low_of x 6 hx s7⟩
theorem low_pow (z : Nat) (hz : z < 7) : 2 ^ z &&& (65536 - 2 ^ z) = 2 ^ z := by
  match z, hz with
  | 0, _ | 1, _ | 2, _ | 3, _ | 4, _ | 5, _ | 6, _ => decide
end Go.Proofs.Qxb6609418aDoor.Plain
