import Derived.Test.Qxb6603436aDigits
namespace Go.Proofs.Qxb6603436a.Plain
/-- The byte of the digit d. -/
def digByte (d : Nat) : UInt8 := UInt8.ofNat (48 + d % 10)
theorem digByte_toNat (d : Nat) : (digByte d).toNat = 48 + d % 10 := by
  unfold digByte
  rw [UInt8.toNat_ofNat']
  omega
theorem digByte_dig (d : Nat) : isDig (digByte d) = true := by
  rw [isDig_iff, digByte_toNat]; omega

/-- Behind m rounds of writeDecimal: what is left of u, and the digits that are laid. -/
def Wrote (u v : Nat) (D : List UInt8) : Prop := (v : Int) * 10 ^ D.length + plainVal D = u ∧ ∀ c ∈ D, isDig c = true

theorem wrote_start (u : Nat) : Wrote u u [] := ⟨by simp [plainVal], by simp⟩
theorem wrote_step {u v : Nat} {D : List UInt8} (h : Wrote u v D) : Wrote u (v / 10) (digByte v :: D) := by
  refine ⟨?_, ?_⟩
  · have h1 := h.1
    rw [plainVal_cons, digByte_toNat, List.length_cons, Int.pow_succ]
    have e : (v : Int) = ((v / 10 : Nat) : Int) * 10 + ((v % 10 : Nat) : Int) := by omega
    rw [e, Int.add_mul, Int.mul_assoc, Int.mul_comm 10] at h1
    have e2 : (((48 + v % 10 : Nat) : Int) - 48) = ((v % 10 : Nat) : Int) := by omega
    rw [e2]
    omega
  · intro c hc
    rcases List.mem_cons.1 hc with rfl | hc
    · exact digByte_dig v
    · exact h.2 c hc
theorem wrote_short {u v : Nat} {D : List UInt8} (h : Wrote u v D) (hu : u < 18446744073709551616) (hv : v ≠ 0) : D.length < 20 := by
  rcases Nat.lt_or_ge D.length 20 with h2 | h2
  · exact h2
  · exfalso
    have h1 := h.1
    have h0 := plainVal_nonneg D h.2
    have h3 : (10 : Int) ^ 20 ≤ 10 ^ D.length := ten_pow_le h2
    have h4 : 1 * (10 : Int) ^ D.length ≤ v * 10 ^ D.length := Int.mul_le_mul_of_nonneg_right (by omega) (by omega)
    have e : (10 : Int) ^ 20 = 100000000000000000000 := by decide
    omega
theorem wrote_end {u : Nat} {D : List UInt8} (h : Wrote u 0 D) : plainVal D = u := by have := h.1; simpa using this

/-- noughts ahead, then the digits: number reads min u 65536. -/
theorem num_written (z : Nat) (D : List UInt8) (u : Nat) (h : Wrote u 0 D) (h0 : D ≠ []) :
    numOk (List.replicate z 48 ++ D) = true ∧ numN (List.replicate z 48 ++ D) = min (u : Int) 65536 := by
  have hz : ∀ c ∈ List.replicate z (48 : UInt8), c = 48 := fun c hc => (List.mem_replicate.1 hc).2
  have hd : ∀ c ∈ List.replicate z 48 ++ D, isDig c = true := by
    intro c hc
    rcases List.mem_append.1 hc with hc | hc
    · rw [hz c hc]; decide
    · exact h.2 c hc
  have hok := numOk_of _ (by simp [h0]) hd
  refine ⟨hok, ?_⟩
  rw [numN_ok _ hok, capVal_eq _ hd, plainVal_zeros_append _ _ hz, wrote_end h]
/-- a sign ahead: refused. -/
theorem num_signed (l : List UInt8) : numOk (45 :: l) = false ∧ numN (45 :: l) = 0 := by
  have h := numOk_not (45 :: l) 45 (by simp) (by decide)
  exact ⟨h, numN_not _ h⟩
end Go.Proofs.Qxb6603436a.Plain
