import Derived.Test.Qxb6603732aShared
namespace Go.Proofs.Qxb6603732a
open Go.RowKit

/-! ### The plain law -/
/-- Two bytes agree in the low bits of the mask exactly where their exclusive or is nought there. -/
theorem mask_same (y b m : Int) (hy0 : 0 ≤ y) (hy1 : y ≤ 255) (hb0 : 0 ≤ b) (hb1 : b ≤ 255) (hm0 : 0 ≤ m) (hm1 : m ≤ 255) :
    ((bits .and .u8 y m == bits .and .u8 b m) == (bits .and .u8 (bits .xor .u8 y b) m == 0)) = true := by
  obtain ⟨Y, rfl⟩ := Int.eq_ofNat_of_zero_le hy0
  obtain ⟨B, rfl⟩ := Int.eq_ofNat_of_zero_le hb0
  obtain ⟨M, rfl⟩ := Int.eq_ofNat_of_zero_le hm0
  have hx : Y ^^^ B < 256 := Nat.xor_lt_two_pow (n := 8) (by omega) (by omega)
  rw [u8_xor_nat Y B (by omega) (by omega), u8_and_nat Y M (by omega) (by omega), u8_and_nat B M (by omega) (by omega), u8_and_nat (Y ^^^ B) M hx (by omega)]
  have e : (Y ^^^ B) &&& M = (Y &&& M) ^^^ (B &&& M) := Nat.and_xor_distrib_right
  rw [e]
  by_cases h : Y &&& M = B &&& M
  · rw [h]; simp
  · have h2 : (Y &&& M) ^^^ (B &&& M) ≠ 0 := by
      intro h0
      have h1 := congrArg (fun t => t ^^^ (B &&& M)) h0
      simp only [Nat.xor_assoc, Nat.xor_self, Nat.xor_zero, Nat.zero_xor] at h1
      exact h h1
    have h3 : (((Y &&& M : Nat) : Int) == ((B &&& M : Nat) : Int)) = false := by
      rw [beq_eq_false_iff_ne]; intro hc; exact h (Int.ofNat_inj.1 hc)
    have h4 : ((((Y &&& M) ^^^ (B &&& M) : Nat) : Int) == 0) = false := by
      rw [beq_eq_false_iff_ne]; intro hc; exact h2 (Int.ofNat_inj.1 hc)
    rw [h3, h4]; rfl

theorem mask_le (y m : Int) (hy0 : 0 ≤ y) (hy1 : y ≤ 255) (hm0 : 0 ≤ m) (hm1 : m ≤ 255) : 0 ≤ bits .and .u8 y m ∧ bits .and .u8 y m ≤ m := by
  obtain ⟨Y, rfl⟩ := Int.eq_ofNat_of_zero_le hy0
  obtain ⟨M, rfl⟩ := Int.eq_ofNat_of_zero_le hm0
  rw [u8_and_nat Y M (by omega) (by omega)]
  have := Nat.and_le_right (n := Y) (m := M)
  omega

/-! ### vexPrefix, on a code of two bytes or more -/
theorem vex_c5 (b off len cap : Nat) (w : World) (h2 : 2 ≤ len) (hl : len ≤ 1048576) (c0 : w.cell? ⟨b, off, none⟩ = some (.int .u8 197)) :
    Calls Try.prog 13 #[.slice (some ⟨b, off, none⟩) len cap] w fun e w' => e = .returned (.tuple #[.int .i64 2, .int .u8 1]) ∧ w' = w := by
  go_enter Try.func13, Try.ntmps13
  go_wp2
  go_ret2
  exact ⟨rfl, rfl⟩

theorem vex_c4 (b off len cap : Nat) (y m : Int) (w : World) (h2 : 2 ≤ len) (hl : len ≤ 1048576) (c0 : w.cell? ⟨b, off, none⟩ = some (.int .u8 196)) (c1 : w.cell? ⟨b, off + 1, none⟩ = some (.int .u8 y)) (hm : bits .and .u8 y 31 = m) :
    Calls Try.prog 13 #[.slice (some ⟨b, off, none⟩) len cap] w fun e w' => e = .returned (.tuple #[.int .i64 3, .int .u8 m]) ∧ w' = w := by
  subst hm
  go_enter Try.func13, Try.ntmps13
  go_wp2
  go_ret2
  exact ⟨rfl, rfl⟩

theorem vex_62 (b off len cap : Nat) (y m : Int) (w : World) (h2 : 2 ≤ len) (hl : len ≤ 1048576) (c0 : w.cell? ⟨b, off, none⟩ = some (.int .u8 98)) (c1 : w.cell? ⟨b, off + 1, none⟩ = some (.int .u8 y)) (hm : bits .and .u8 y 7 = m) :
    Calls Try.prog 13 #[.slice (some ⟨b, off, none⟩) len cap] w fun e w' => e = .returned (.tuple #[.int .i64 4, .int .u8 m]) ∧ w' = w := by
  subst hm
  go_enter Try.func13, Try.ntmps13
  go_wp2
  go_ret2
  exact ⟨rfl, rfl⟩

theorem vex_other (b off len cap : Nat) (x : Int) (w : World) (h2 : 2 ≤ len) (hl : len ≤ 1048576) (c0 : w.cell? ⟨b, off, none⟩ = some (.int .u8 x)) (n1 : (x == 197) = false) (n2 : (x == 196) = false) (n3 : (x == 98) = false) :
    Calls Try.prog 13 #[.slice (some ⟨b, off, none⟩) len cap] w fun e w' => e = .returned (.tuple #[.int .i64 0, .int .u8 0]) ∧ w' = w := by
  go_enter Try.func13, Try.ntmps13
  go_wp2
  go_ret2
  exact ⟨rfl, rfl⟩

theorem zzvex_of {b off len cap : Nat} {w : World} {n m : Int} (h : Calls Try.prog 13 #[.slice (some ⟨b, off, none⟩) len cap] w fun e w' => e = .returned (.tuple #[.int .i64 n, .int .u8 m]) ∧ w' = w) :
    Calls Try.prog 11 #[.slice (some ⟨b, off, none⟩) len cap] w fun e w' => e = .returned (.tuple #[.int .i64 n, .int .u8 m]) ∧ w' = w := by
  go_enter Try.func11, Try.ntmps11
  go_wp2_with (go_at_call 13; refine h.mono ?_; rintro e w' ⟨rfl, rfl⟩)
  go_ret2
  exact ⟨rfl, rfl⟩
end Go.Proofs.Qxb6603732a
