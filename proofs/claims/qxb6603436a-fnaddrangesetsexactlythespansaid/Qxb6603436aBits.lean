namespace Go.Proofs.Qxb6603436a.Plain
/-- The word that addRange lays over word i of the set. -/
def loPart (lo i : Nat) : Nat := if i = lo / 64 then 18446744073709551615 * 2 ^ (lo % 64) % 18446744073709551616 else 18446744073709551615
def hiPart (hi i : Nat) : Nat := if i = hi / 64 then 18446744073709551615 / 2 ^ (63 - hi % 64) else 18446744073709551615

theorem ones_testBit (j : Nat) : Nat.testBit 18446744073709551615 j = decide (j < 64) := by
  have := Nat.testBit_two_pow_sub_one 64 j
  simpa using this

theorem loPart_bit (lo i j : Nat) (hj : j < 64) (hi : lo / 64 ≤ i) : (loPart lo i).testBit j = decide (lo ≤ 64 * i + j) := by
  unfold loPart
  by_cases h : i = lo / 64
  · rw [if_pos h]
    have e : (18446744073709551616 : Nat) = 2 ^ 64 := by decide
    rw [e, Nat.testBit_mod_two_pow, ← Nat.shiftLeft_eq, Nat.testBit_shiftLeft, ones_testBit]
    rw [Bool.eq_iff_iff]; simp; omega
  · rw [if_neg h, ones_testBit]
    rw [Bool.eq_iff_iff]; simp; omega

theorem hiPart_bit (hi i j : Nat) (hj : j < 64) (h2 : i ≤ hi / 64) : (hiPart hi i).testBit j = decide (64 * i + j ≤ hi) := by
  unfold hiPart
  by_cases h : i = hi / 64
  · rw [if_pos h, ← Nat.shiftRight_eq_div_pow, Nat.testBit_shiftRight, ones_testBit]
    rw [Bool.eq_iff_iff]; simp; omega
  · rw [if_neg h, ones_testBit]
    rw [Bool.eq_iff_iff]; simp; omega

theorem loPart_lt (lo i : Nat) : loPart lo i < 18446744073709551616 := by
  unfold loPart; split
  · exact Nat.mod_lt _ (by decide)
  · decide
theorem hiPart_lt (hi i : Nat) : hiPart hi i < 18446744073709551616 := by
  unfold hiPart; split
  · exact Nat.lt_of_le_of_lt (Nat.div_le_self _ _) (by decide)
  · decide

/-- Word i of the set behind addRange's rounds up to (not with) word k. -/
def wordAt (lo hi k : Nat) (s i : Nat) : Nat := if lo / 64 ≤ i ∧ i < k then s ||| (loPart lo i &&& hiPart hi i) else s
/-- Word i of the model's set behind its first n turns. -/
def modelAt (lo hi : Nat) : Nat → Nat → Nat → Nat
  | 0, s, _ => s
  | n + 1, s, i => if n / 64 = i ∧ lo ≤ n ∧ n ≤ hi then modelAt lo hi n s i ||| 2 ^ (n % 64) else modelAt lo hi n s i

theorem modelAt_bit (lo hi n s i j : Nat) (hj : j < 64) : (modelAt lo hi n s i).testBit j = (s.testBit j || decide (64 * i + j < n ∧ lo ≤ 64 * i + j ∧ 64 * i + j ≤ hi)) := by
  induction n with
  | zero => simp [modelAt]
  | succ n ih =>
    unfold modelAt
    by_cases h : n / 64 = i ∧ lo ≤ n ∧ n ≤ hi
    · rw [if_pos h, Nat.testBit_or, ih, Nat.testBit_two_pow]
      cases s.testBit j
      · rw [Bool.eq_iff_iff]; simp; omega
      · simp
    · rw [if_neg h, ih]
      cases s.testBit j
      · rw [Bool.eq_iff_iff]; simp; omega
      · simp

theorem modelAt_lt (lo hi n s i : Nat) (hs : s < 18446744073709551616) : modelAt lo hi n s i < 18446744073709551616 := by
  induction n with
  | zero => simpa [modelAt] using hs
  | succ n ih =>
    unfold modelAt
    split
    · exact Nat.or_lt_two_pow (n := 64) ih (Nat.pow_lt_pow_right (by decide) (by omega))
    · exact ih

theorem wordAt_lt (lo hi k s i : Nat) (hs : s < 18446744073709551616) : wordAt lo hi k s i < 18446744073709551616 := by
  unfold wordAt
  split
  · exact Nat.or_lt_two_pow (n := 64) hs (Nat.and_lt_two_pow _ (hiPart_lt hi i))
  · exact hs

theorem wordAt_bit (lo hi k s i j : Nat) (hj : j < 64) (hk : k ≤ hi / 64 + 1) : (wordAt lo hi k s i).testBit j = (s.testBit j || decide (i < k ∧ lo ≤ 64 * i + j ∧ 64 * i + j ≤ hi)) := by
  unfold wordAt
  by_cases h : lo / 64 ≤ i ∧ i < k
  · rw [if_pos h, Nat.testBit_or, Nat.testBit_and, loPart_bit lo i j hj h.1, hiPart_bit hi i j hj (by omega)]
    cases s.testBit j
    · rw [Bool.eq_iff_iff]; simp; omega
    · simp
  · rw [if_neg h]
    cases s.testBit j
    · rw [Bool.eq_iff_iff]; simp; omega
    · simp

/-- THE PLAIN LAW: addRange's word and the model's word are one. -/
theorem word_eq_model (lo hi k s i : Nat) (hs : s < 18446744073709551616) (hi4 : i < 4) (hk : k = hi / 64 + 1 ∨ (hi / 64 < lo / 64 ∧ k = lo / 64)) :
    wordAt lo hi k s i = modelAt lo hi 256 s i := by
  apply Nat.eq_of_testBit_eq
  intro j
  by_cases hj : j < 64
  · rw [modelAt_bit _ _ _ _ _ _ hj]
    rcases hk with rfl | ⟨h1, rfl⟩
    · rw [wordAt_bit _ _ _ _ _ _ hj (Nat.le_refl _)]
      cases s.testBit j
      · rw [Bool.eq_iff_iff]; simp; omega
      · simp
    · have : wordAt lo hi (lo / 64) s i = s := by unfold wordAt; rw [if_neg (by omega)]
      rw [this]
      cases s.testBit j
      · rw [Bool.eq_iff_iff]; simp; omega
      · simp
  · have hp : (2 : Nat) ^ 64 ≤ 2 ^ j := Nat.pow_le_pow_right (by decide) (by omega)
    rw [Nat.testBit_lt_two_pow (Nat.lt_of_lt_of_le (wordAt_lt lo hi k s i hs) hp),
      Nat.testBit_lt_two_pow (Nat.lt_of_lt_of_le (modelAt_lt lo hi 256 s i hs) hp)]
end Go.Proofs.Qxb6603436a.Plain
