import Derived.Test.Qxb6603732aRows
import Derived.WalkKit
import Derived.WalkSpells
import Derived.WalkLawsBesides
import Derived.RegionTactic
import Derived.ChangeAlike
namespace Go.Proofs.Qxb6603732a
open Go.RowKit

/-- What modrmLength reads off a code of at least one byte: x the first, y the second (asked only where there is one). -/
def mlen (len : Nat) (x y : Int) : Int :=
  if x / 64 ≠ 3 ∧ x % 8 = 4 then
    (if len < 2 then 0 else 2 + (if x / 64 = 0 ∧ y % 8 = 5 then 4 else 0) + (if x / 64 = 1 then 1 else if x / 64 = 2 then 4 else 0))
  else 1 + (if x / 64 = 0 ∧ x % 8 = 5 then 4 else if x / 64 = 1 then 1 else if x / 64 = 2 then 4 else 0)

theorem and7 (x : Int) (h0 : 0 ≤ x) (h1 : x ≤ 255) : bits .and .u8 x 7 = x % 8 := by
  obtain ⟨X, rfl⟩ := Int.eq_ofNat_of_zero_le h0
  have h := u8_and_nat X 7 (by omega) (by decide)
  rw [show (7 : Nat) = 2 ^ 3 - 1 from rfl, Nat.and_two_pow_sub_one_eq_mod] at h
  exact h

theorem ret_int {k : IntKind} {a b : Int} (h : a = b) : Ending.returned (.int k a) = .returned (.int k b) := by rw [h]

/-- The ways through modrmLength, every test decided. -/
theorem mlen_ways (len : Nat) (x y : Int) (hx0 : 0 ≤ x) (hx1 : x ≤ 255) :
    (x / 64 < 3 ∧ x % 8 = 4 ∧ len < 2) ∨ (x / 64 = 0 ∧ x % 8 = 4 ∧ 2 ≤ len ∧ y % 8 = 5) ∨ (x / 64 = 0 ∧ x % 8 = 4 ∧ 2 ≤ len ∧ y % 8 ≠ 5) ∨ (x / 64 = 1 ∧ x % 8 = 4 ∧ 2 ≤ len) ∨ (x / 64 = 2 ∧ x % 8 = 4 ∧ 2 ≤ len) ∨
    x / 64 = 3 ∨ (x / 64 = 0 ∧ x % 8 = 5) ∨ (x / 64 = 0 ∧ x % 8 ≠ 4 ∧ x % 8 ≠ 5) ∨ (x / 64 = 1 ∧ x % 8 ≠ 4) ∨ (x / 64 = 2 ∧ x % 8 ≠ 4) := by omega

set_option maxHeartbeats 1000000 in
theorem modrm_any (b off len cap : Nat) (x y : Int) (hx0 : 0 ≤ x) (hx1 : x ≤ 255) (hy0 : 0 ≤ y) (hy1 : y ≤ 255) (w : World) (hlen : 0 < len) (hlen2 : len ≤ 1048576)
    (c0 : w.cell? ⟨b, off, none⟩ = some (.int .u8 x)) (c1 : 1 < len → w.cell? ⟨b, off + 1, none⟩ = some (.int .u8 y)) :
    Calls Try.prog 12 #[.slice (some ⟨b, off, none⟩) len cap] w fun e w' => e = .returned (.int .i64 (mlen len x y)) ∧ w' = w.drew := by
  have ax := and7 x hx0 hx1
  have ay := and7 y hy0 hy1
  have hl0 : (0 : Int) < (len : Int) := by omega
  rcases mlen_ways len x y hx0 hx1 with ⟨h, hr, hl⟩ | ⟨h, hr, hl, hy⟩ | ⟨h, hr, hl, hy⟩ | ⟨h, hr, hl⟩ | ⟨h, hr, hl⟩ | h | ⟨h, hr⟩ | ⟨h, hr, hr2⟩ | ⟨h, hr⟩ | ⟨h, hr⟩
  all_goals
    have hl1 : 2 ≤ len → w.cell? ⟨b, off + 1, none⟩ = some (.int .u8 y) := fun h => c1 (by omega)
    clear c1
    try have c1' := hl1 hl
    try have hl2 : (1 : Int) < (len : Int) := by omega
    clear hl1
    go_enter Try.func12, Try.ntmps12
    go_wp2
    go_region
    go_wp2
    go_ret
    exact ⟨ret_int (by unfold mlen; repeat (first | rw [if_pos (by omega)] | rw [if_neg (by omega)]); try rfl), rfl⟩
end Go.Proofs.Qxb6603732a
