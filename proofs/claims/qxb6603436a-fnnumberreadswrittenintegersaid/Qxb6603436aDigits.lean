namespace Go.Proofs.Qxb6603436a.Plain
/-- An ASCII digit. -/
def isDig (c : UInt8) : Bool := decide (48 ≤ c.toNat) && decide (c.toNat ≤ 57)
def digStep (n : Int) (c : UInt8) : Int := n * 10 + ((c.toNat : Int) - 48)
def capStep (n : Int) (c : UInt8) : Int := min (n * 10 + ((c.toNat : Int) - 48)) 65536
/-- The number that a row of digits writes; and the same capped at each step. -/
def plainVal (l : List UInt8) : Int := l.foldl digStep 0
def capVal (l : List UInt8) : Int := l.foldl capStep 0
def numOk (l : List UInt8) : Bool := !l.isEmpty && l.all isDig
def numN (l : List UInt8) : Int := if numOk l = true then capVal l else 0

theorem isDig_iff (c : UInt8) : isDig c = true ↔ 48 ≤ c.toNat ∧ c.toNat ≤ 57 := by simp [isDig]

theorem capVal_snoc (l : List UInt8) (c : UInt8) : capVal (l ++ [c]) = min (capVal l * 10 + ((c.toNat : Int) - 48)) 65536 := by
  simp [capVal, capStep, List.foldl_append]
theorem plainVal_snoc (l : List UInt8) (c : UInt8) : plainVal (l ++ [c]) = plainVal l * 10 + ((c.toNat : Int) - 48) := by
  simp [plainVal, digStep, List.foldl_append]

theorem fold_cap (l : List UInt8) (h : ∀ c ∈ l, isDig c = true) : ∀ a : Int, 0 ≤ a → l.foldl capStep (min a 65536) = min (l.foldl digStep a) 65536 ∧ 0 ≤ l.foldl digStep a := by
  induction l with
  | nil => intro a ha; exact ⟨rfl, ha⟩
  | cons c l ih =>
    intro a ha
    have hc := (isDig_iff c).1 (h c (by simp))
    have e : capStep (min a 65536) c = min (digStep a c) 65536 := by unfold capStep digStep; omega
    have h0 : 0 ≤ digStep a c := by unfold digStep; omega
    simp only [List.foldl_cons]
    rw [e]
    exact ih (fun d hd => h d (by simp [hd])) _ h0

theorem capVal_eq (l : List UInt8) (h : ∀ c ∈ l, isDig c = true) : capVal l = min (plainVal l) 65536 := (fold_cap l h 0 (by omega)).1
theorem plainVal_nonneg (l : List UInt8) (h : ∀ c ∈ l, isDig c = true) : 0 ≤ plainVal l := (fold_cap l h 0 (by omega)).2
theorem capVal_bd (l : List UInt8) (h : ∀ c ∈ l, isDig c = true) : 0 ≤ capVal l ∧ capVal l ≤ 65536 := by
  have := plainVal_nonneg l h
  rw [capVal_eq l h]; omega

theorem fold_dig (l : List UInt8) : ∀ a : Int, l.foldl digStep a = a * 10 ^ l.length + plainVal l := by
  induction l with
  | nil => intro a; simp [plainVal]
  | cons c l ih =>
    intro a
    have e : plainVal (c :: l) = digStep 0 c * 10 ^ l.length + plainVal l := by
      show (c :: l).foldl digStep 0 = _
      simp only [List.foldl_cons]; exact ih _
    rw [e]
    simp only [List.foldl_cons, List.length_cons]
    rw [ih]
    unfold digStep
    rw [Int.pow_succ, Int.add_mul, Int.add_mul, Int.mul_assoc a, Int.mul_comm 10]
    simp; omega

theorem plainVal_cons (c : UInt8) (l : List UInt8) : plainVal (c :: l) = ((c.toNat : Int) - 48) * 10 ^ l.length + plainVal l := by
  have h := fold_dig l (digStep 0 c)
  have e : digStep 0 c = (c.toNat : Int) - 48 := by unfold digStep; omega
  rw [e] at h
  show (c :: l).foldl digStep 0 = _
  simp only [List.foldl_cons]
  rw [e]; exact h

theorem plainVal_append (l m : List UInt8) : plainVal (l ++ m) = plainVal l * 10 ^ m.length + plainVal m := by
  unfold plainVal
  rw [List.foldl_append]
  exact fold_dig m _

/-- Noughts ahead write nothing. -/
theorem plainVal_zeros (l : List UInt8) (h : ∀ c ∈ l, c = 48) : plainVal l = 0 := by
  induction l with
  | nil => rfl
  | cons c l ih =>
    have hc : c = 48 := h c (by simp)
    rw [plainVal_cons, ih (fun d hd => h d (by simp [hd])), hc]
    simp

theorem plainVal_zeros_append (z l : List UInt8) (h : ∀ c ∈ z, c = 48) : plainVal (z ++ l) = plainVal l := by
  rw [plainVal_append, plainVal_zeros z h]; simp

theorem plainVal_lt (l : List UInt8) (h : ∀ c ∈ l, isDig c = true) : plainVal l < 10 ^ l.length := by
  induction l with
  | nil => simp [plainVal]
  | cons c l ih =>
    have hc := (isDig_iff c).1 (h c (by simp))
    have h1 := ih (fun d hd => h d (by simp [hd]))
    rw [plainVal_cons, List.length_cons, Int.pow_succ]
    have hp : (0 : Int) < 10 ^ l.length := Int.pow_pos (by omega)
    have h2 : ((c.toNat : Int) - 48) * 10 ^ l.length ≤ 9 * 10 ^ l.length := Int.mul_le_mul_of_nonneg_right (by omega) (by omega)
    omega

theorem ten_pow_le {a b : Nat} (h : a ≤ b) : (10 : Int) ^ a ≤ 10 ^ b := by
  have e : ∀ n : Nat, (10 : Int) ^ n = ((10 ^ n : Nat) : Int) := fun n => by simp
  rw [e a, e b]
  exact Int.ofNat_le.2 (Nat.pow_le_pow_right (by decide) h)

/-- The bound under which the model's third loop runs. -/
theorem pv_bound (l : List UInt8) (h : ∀ c ∈ l, isDig c = true) (st i : Nat) (hz : ∀ c ∈ l.take st, c = 48) (hsi : st ≤ i) (hi : i ≤ l.length) (h5 : l.length - st ≤ 5) :
    0 ≤ plainVal (l.take i) ∧ plainVal (l.take i) < 100000 := by
  have hd : ∀ c ∈ l.take i, isDig c = true := fun c hc => h c (List.mem_of_mem_take hc)
  refine ⟨plainVal_nonneg _ hd, ?_⟩
  have e : l.take i = l.take st ++ (l.take i).drop st := by
    have := (List.take_append_drop st (l.take i)).symm
    rw [List.take_take, Nat.min_eq_left hsi] at this
    exact this
  rw [e, plainVal_zeros_append _ _ hz]
  have h1 := plainVal_lt ((l.take i).drop st) (fun c hc => hd c (List.mem_of_mem_drop hc))
  have hl : ((l.take i).drop st).length ≤ 5 := by simp; omega
  have h2 : (10 : Int) ^ ((l.take i).drop st).length ≤ 10 ^ 5 := ten_pow_le hl
  have e5 : (10 : Int) ^ 5 = 100000 := by decide
  omega

/-- More than five digits behind the noughts: at least 100000. -/
theorem pv_big (l : List UInt8) (h : ∀ c ∈ l, isDig c = true) (st : Nat) (hz : ∀ c ∈ l.take st, c = 48) (hst : st < l.length) (hn : l[st] ≠ 48) (h5 : 5 < l.length - st) :
    100000 ≤ plainVal l := by
  have e : l = l.take st ++ (l[st] :: l.drop (st + 1)) := by
    rw [← List.drop_eq_getElem_cons hst]; exact (List.take_append_drop st l).symm
  have hd : ∀ c ∈ l.drop (st + 1), isDig c = true := fun c hc => h c (List.mem_of_mem_drop hc)
  have h0 := plainVal_nonneg _ hd
  have hc := (isDig_iff l[st]).1 (h _ (List.getElem_mem hst))
  have hne : l[st].toNat ≠ 48 := fun hx => hn (UInt8.toNat_inj.1 (by simpa using hx))
  have e2 : plainVal l = ((l[st].toNat : Int) - 48) * 10 ^ (l.drop (st + 1)).length + plainVal (l.drop (st + 1)) := by
    conv => lhs; rw [e]
    rw [plainVal_zeros_append _ _ hz, plainVal_cons]
  have hl : 5 ≤ (l.drop (st + 1)).length := by simp; omega
  have h2 : (10 : Int) ^ 5 ≤ 10 ^ (l.drop (st + 1)).length := ten_pow_le hl
  have e5 : (10 : Int) ^ 5 = 100000 := by decide
  have h3 : 1 * 10 ^ (l.drop (st + 1)).length ≤ ((l[st].toNat : Int) - 48) * 10 ^ (l.drop (st + 1)).length := Int.mul_le_mul_of_nonneg_right (by omega) (by omega)
  omega

theorem numOk_of (l : List UInt8) (h0 : l ≠ []) (h : ∀ c ∈ l, isDig c = true) : numOk l = true := by
  simp [numOk, h0]; exact h
theorem numOk_not (l : List UInt8) (c : UInt8) (hc : c ∈ l) (h : ¬ (48 ≤ c.toNat ∧ c.toNat ≤ 57)) : numOk l = false := by
  have : isDig c = false := by
    cases hd : isDig c with
    | false => rfl
    | true => exact absurd ((isDig_iff c).1 hd) h
  unfold numOk
  have hall : l.all isDig = false := by
    rw [List.all_eq_false]; exact ⟨c, hc, by simp [this]⟩
  rw [hall]; simp
theorem numN_ok (l : List UInt8) (h : numOk l = true) : numN l = capVal l := by simp [numN, h]
theorem numN_not (l : List UInt8) (h : numOk l = false) : numN l = 0 := by simp [numN, h]

theorem all_take_succ (l : List UInt8) (k : Nat) (hk : k < l.length) (p : UInt8 → Prop) (h : ∀ c ∈ l.take k, p c) (hc : p l[k]) : ∀ c ∈ l.take (k + 1), p c := by
  intro c hm
  rw [List.take_succ_eq_append_getElem hk] at hm
  rcases List.mem_append.1 hm with hm | hm
  · exact h c hm
  · simp at hm; subst hm; exact hc
end Go.Proofs.Qxb6603436a.Plain
