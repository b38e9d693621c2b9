import Derived.Test.Qxb6603436aBits
import Derived.WalkKit
namespace Go.Proofs.Qxb6603436a
open Go.RowKit
open Plain

theorem ones_and (a : Nat) (ha : a < 18446744073709551616) : 18446744073709551615 &&& a = a := by
  have h := Nat.and_two_pow_sub_one_eq_mod a 64
  rw [Nat.and_comm] at h
  have e : (2 : Nat) ^ 64 - 1 = 18446744073709551615 := by decide
  rw [e] at h
  rw [h]
  exact Nat.mod_eq_of_lt ha

theorem and_ones (a : Nat) (ha : a < 18446744073709551616) : a &&& 18446744073709551615 = a := by rw [Nat.and_comm]; exact ones_and a ha

theorem lw_cast (l : Nat) : IntKind.u64.wrap (18446744073709551615 * 2 ^ l) = ((18446744073709551615 * 2 ^ l % 18446744073709551616 : Nat) : Int) := by
  rw [IntKind.wrap_u64]; simp
theorem hw_cast (h : Nat) : (18446744073709551615 : Int) / 2 ^ h = ((18446744073709551615 / 2 ^ h : Nat) : Int) := by simp

theorem w_lo0 (lo k : Nat) (h1 : k = lo / 64) : bits .and .u64 18446744073709551615 (IntKind.u64.wrap (18446744073709551615 * 2 ^ (lo % 64))) = ((loPart lo k : Nat) : Int) := by
  have hl := loPart_lt lo k
  have e : loPart lo k = 18446744073709551615 * 2 ^ (lo % 64) % 18446744073709551616 := by unfold loPart; rw [if_pos h1]
  rw [lw_cast, ← e]
  have := u64_and_nat 18446744073709551615 (loPart lo k) (by decide) hl
  rw [ones_and _ hl] at this
  exact this

theorem w_hi0 (hi k : Nat) (h2 : k = hi / 64) : (18446744073709551615 : Int) / 2 ^ (63 - hi % 64) = ((hiPart hi k : Nat) : Int) := by
  have e : hiPart hi k = 18446744073709551615 / 2 ^ (63 - hi % 64) := by unfold hiPart; rw [if_pos h2]
  rw [hw_cast, ← e]

theorem hi_ones (hi k : Nat) (h2 : k ≠ hi / 64) : hiPart hi k = 18446744073709551615 := by unfold hiPart; rw [if_neg h2]
theorem lo_ones (lo k : Nat) (h2 : k ≠ lo / 64) : loPart lo k = 18446744073709551615 := by unfold loPart; rw [if_neg h2]

theorem w_or (lo hi k s : Nat) (h1 : lo / 64 ≤ k) (hs : s < 18446744073709551616) : bits .or .u64 ((wordAt lo hi k s k : Nat) : Int) ((loPart lo k &&& hiPart hi k : Nat) : Int) = ((wordAt lo hi (k + 1) s k : Nat) : Int) := by
  have e1 : wordAt lo hi k s k = s := by unfold wordAt; rw [if_neg (by omega)]
  have e2 : wordAt lo hi (k + 1) s k = s ||| (loPart lo k &&& hiPart hi k) := by unfold wordAt; rw [if_pos (by omega)]
  rw [e1, e2]
  exact u64_or_nat _ _ hs (Nat.and_lt_two_pow (n := 64) _ (hiPart_lt hi k))

theorem w_both (lo hi k s : Nat) (h1 : k = lo / 64) (h2 : k = hi / 64) (hs : s < 18446744073709551616) :
    bits .or .u64 ((wordAt lo hi k s k : Nat) : Int) (bits .and .u64 (bits .and .u64 18446744073709551615 (IntKind.u64.wrap (18446744073709551615 * 2 ^ (lo % 64)))) (18446744073709551615 / 2 ^ (63 - hi % 64))) = ((wordAt lo hi (k + 1) s k : Nat) : Int) := by
  rw [w_lo0 lo k h1, w_hi0 hi k h2, u64_and_nat _ _ (loPart_lt lo k) (hiPart_lt hi k)]
  exact w_or lo hi k s (by omega) hs

theorem w_lo (lo hi k s : Nat) (h1 : k = lo / 64) (h2 : k ≠ hi / 64) (hs : s < 18446744073709551616) :
    bits .or .u64 ((wordAt lo hi k s k : Nat) : Int) (bits .and .u64 18446744073709551615 (IntKind.u64.wrap (18446744073709551615 * 2 ^ (lo % 64)))) = ((wordAt lo hi (k + 1) s k : Nat) : Int) := by
  have h := w_or lo hi k s (by omega) hs
  rw [hi_ones hi k h2, and_ones _ (loPart_lt lo k)] at h
  rw [w_lo0 lo k h1]
  exact h

theorem w_hi (lo hi k s : Nat) (h0 : lo / 64 ≤ k) (h1 : k ≠ lo / 64) (h2 : k = hi / 64) (hs : s < 18446744073709551616) :
    bits .or .u64 ((wordAt lo hi k s k : Nat) : Int) (bits .and .u64 18446744073709551615 (18446744073709551615 / 2 ^ (63 - hi % 64))) = ((wordAt lo hi (k + 1) s k : Nat) : Int) := by
  have h := w_or lo hi k s h0 hs
  rw [lo_ones lo k h1, ones_and _ (hiPart_lt hi k)] at h
  rw [w_hi0 hi k h2]
  have := u64_and_nat 18446744073709551615 (hiPart hi k) (by decide) (hiPart_lt hi k)
  rw [ones_and _ (hiPart_lt hi k)] at this
  have e : ((18446744073709551615 : Nat) : Int) = 18446744073709551615 := rfl
  rw [e] at this
  rw [this]
  exact h

theorem w_none (lo hi k s : Nat) (h0 : lo / 64 ≤ k) (h1 : k ≠ lo / 64) (h2 : k ≠ hi / 64) (hs : s < 18446744073709551616) :
    bits .or .u64 ((wordAt lo hi k s k : Nat) : Int) 18446744073709551615 = ((wordAt lo hi (k + 1) s k : Nat) : Int) := by
  have h := w_or lo hi k s h0 hs
  rw [lo_ones lo k h1, hi_ones hi k h2, ones_and _ (by decide)] at h
  exact h

theorem grownBy_setCell {w wr : World} {b : Nat} (hg : w.grownBy wr (some b)) (p : Addr) (hp : p.block = b) (v : Value) : w.grownBy (wr.setCell p v).drew (some b) :=
  ⟨hg.os, hg.tape, hg.output, by have := hg.size; simpa [World.setCell, World.drew] using this,
    fun k hk hne => by
      have : (wr.setCell p v).drew.heap[k]? = (wr.setCell p v).heap[k]? := rfl
      rw [this, Below.heap_setCell _ _ _ _ (by intro e; exact hne (by rw [e, hp]))]
      exact hg.block k hk hne⟩

/-- One round of addRange: word k is laid, the others stand. -/
theorem add_step {lo hi b k : Nat} {S : Nat → Nat} {w wr : World} {v : Int} (hv : v = ((wordAt lo hi (k + 1) (S k) k : Nat) : Int))
    (hR : (∀ j, j < 4 → wr.cell? ⟨b, j, none⟩ = some (.int .u64 (wordAt lo hi k (S j) j))) ∧ (∀ j, j < 4 → wr.frozen? ⟨b, j, none⟩ = false) ∧ w.grownBy wr (some b)) :
    (∀ j, j < 4 → (wr.setCell ⟨b, k, none⟩ (.int .u64 v)).drew.cell? ⟨b, j, none⟩ = some (.int .u64 (wordAt lo hi (k + 1) (S j) j))) ∧
    (∀ j, j < 4 → (wr.setCell ⟨b, k, none⟩ (.int .u64 v)).drew.frozen? ⟨b, j, none⟩ = false) ∧ w.grownBy (wr.setCell ⟨b, k, none⟩ (.int .u64 v)).drew (some b) := by
  obtain ⟨hc, hf, hg⟩ := hR
  refine ⟨fun j hj => ?_, fun j hj => ?_, grownBy_setCell hg _ rfl _⟩
  · rw [World.cell?_drew]
    by_cases e : j = k
    · subst e
      rw [World.cell?_setCell_same _ _ _ (hc j hj), hv]
    · rw [World.cell?_setCell_other _ _ _ _ (by intro h; injection h with _ h2; exact e h2.symm), hc j hj]
      have : wordAt lo hi (k + 1) (S j) j = wordAt lo hi k (S j) j := by
        unfold wordAt
        by_cases h : lo / 64 ≤ j ∧ j < k
        · rw [if_pos h, if_pos (by omega)]
        · rw [if_neg h, if_neg (by omega)]
      rw [this]
  · rw [World.frozen?_drew, World.frozen?_setCell]
    exact hf j hj
end Go.Proofs.Qxb6603436a
