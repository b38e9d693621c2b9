import Derived.Test.Qxb6603436aRows
import Derived.Test.Qxb6603436aBits2
import Derived.WalkKit
import Derived.WalkSpells
import Derived.WalkLawsBesides
import Derived.RegionTactic
import Derived.ChangeAlike
namespace Go.Proofs.Qxb6603436a
open Go.RowKit
open Plain

set_option maxHeartbeats 400000 in
theorem addRange_any (b : Nat) (lo hi : Nat) (hlo : lo ≤ 255) (hhi : hi ≤ 255) (S : Nat → Nat) (hS : ∀ i, i < 4 → S i < 18446744073709551616) (w : World)
    (hc : ∀ i, i < 4 → w.cell? ⟨b, i, none⟩ = some (.int .u64 (S i))) (hf : ∀ i, i < 4 → w.frozen? ⟨b, i, none⟩ = false) :
    Calls Try.prog 17 #[.pointer (some ⟨b, 0, none⟩), .int .i64 lo, .int .i64 hi] w fun e w' => e = .returned (.tuple #[]) ∧
      (∀ i, i < 4 → w'.cell? ⟨b, i, none⟩ = some (.int .u64 (wordAt lo hi (max (lo / 64) (hi / 64 + 1)) (S i) i))) ∧ w.grownBy w' (some b) := by
  go_enter Try.func17, Try.ntmps17
  go_wp2
  go_loopw [6] (fun i wr => ∃ k : Nat, lo / 64 ≤ k ∧ k ≤ max (lo / 64) (hi / 64 + 1) ∧ i = .int .i64 k ∧ (∀ j, j < 4 → wr.cell? ⟨b, j, none⟩ = some (.int .u64 (wordAt lo hi k (S j) j))) ∧
      (∀ j, j < 4 → wr.frozen? ⟨b, j, none⟩ = false) ∧ w.grownBy wr (some b)) (fun i _ => 4 - (intOf i).toNat)
  case atStart => exact ⟨lo / 64, Nat.le_refl _, by omega, by go_num, fun j hj => by rw [hc j hj]; unfold wordAt; rw [if_neg (by omega)], hf, World.grownBy.refl _ _⟩
  case round =>
    obtain ⟨k, hk1, hk2, rfl, hcr, hfr, hg⟩ := hrel
    by_cases hlt : k ≤ hi / 64
    · have hk4 : k < 4 := by omega
      have hck := hcr k hk4
      have hfk := hfr k hk4
      have hSk := hS k hk4
      have HR : Hid ((∀ j, j < 4 → wr.cell? ⟨b, j, none⟩ = some (.int .u64 (wordAt lo hi k (S j) j))) ∧ (∀ j, j < 4 → wr.frozen? ⟨b, j, none⟩ = false) ∧ w.grownBy wr (some b)) := ⟨hcr, hfr, hg⟩
      clear hcr hfr hc hf hS hg
      by_cases h1 : k ≤ lo / 64
      · by_cases h2 : hi / 64 ≤ k
        · go_wp2
          go_region
          go_wp2
          go_roundw
          case rel => exact ⟨k + 1, by omega, by omega, by go_num, add_step (w_both lo hi k (S k) (by omega) (by omega) hSk) HR.out⟩
          case measure => simp [intOf]; omega
        · go_wp2
          go_region
          go_wp2
          go_roundw
          case rel => exact ⟨k + 1, by omega, by omega, by go_num, add_step (w_lo lo hi k (S k) (by omega) (by omega) hSk) HR.out⟩
          case measure => simp [intOf]; omega
      · by_cases h2 : hi / 64 ≤ k
        · go_wp2
          go_region
          go_wp2
          go_roundw
          case rel => exact ⟨k + 1, by omega, by omega, by go_num, add_step (w_hi lo hi k (S k) hk1 (by omega) (by omega) hSk) HR.out⟩
          case measure => simp [intOf]; omega
        · go_wp2
          go_region
          go_wp2
          go_roundw
          case rel => exact ⟨k + 1, by omega, by omega, by go_num, add_step (w_none lo hi k (S k) hk1 (by omega) (by omega) hSk) HR.out⟩
          case measure => simp [intOf]; omega
    · have ek : max (lo / 64) (hi / 64 + 1) = k := by omega
      have HR : Hid ((∀ j, j < 4 → wr.cell? ⟨b, j, none⟩ = some (.int .u64 (wordAt lo hi (max (lo / 64) (hi / 64 + 1)) (S j) j))) ∧ w.grownBy wr (some b)) := by rw [ek]; exact ⟨hcr, hg⟩
      clear ek hcr hfr hc hf hg
      go_wp2
      go_end0
      exact ⟨rfl, HR.out⟩
end Go.Proofs.Qxb6603436a
