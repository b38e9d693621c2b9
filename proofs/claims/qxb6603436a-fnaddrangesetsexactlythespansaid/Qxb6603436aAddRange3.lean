import Derived.Test.Qxb6603436aAddRange2
import Derived.Test.Qxb6603436aEql
namespace Go.Proofs.Qxb6603436a
open Go.RowKit
open Plain

def pick4 (s0 s1 s2 s3 : Nat) : Nat → Nat
  | 0 => s0
  | 1 => s1
  | 2 => s2
  | _ => s3

theorem pick4_lt {s0 s1 s2 s3 : Nat} (h0 : s0 < 18446744073709551616) (h1 : s1 < 18446744073709551616) (h2 : s2 < 18446744073709551616) (h3 : s3 < 18446744073709551616) (i : Nat) : pick4 s0 s1 s2 s3 i < 18446744073709551616 := by
  unfold pick4
  split
  · exact h0
  · exact h1
  · exact h2
  · exact h3

theorem model_hit (lo hi k s : Nat) (h1 : lo ≤ k) (h2 : k ≤ hi) (hs : s < 18446744073709551616) :
    bits .or .u64 ((modelAt lo hi k s (k / 64) : Nat) : Int) (IntKind.u64.wrap (2 ^ (k % 64))) = ((modelAt lo hi (k + 1) s (k / 64) : Nat) : Int) := by
  have hp : (2 : Nat) ^ (k % 64) < 18446744073709551616 := Nat.pow_lt_pow_right (n := 64) (by decide) (by omega)
  have e : IntKind.u64.wrap (2 ^ (k % 64)) = ((2 ^ (k % 64) : Nat) : Int) := by
    have e2 : ((2 : Int) ^ (k % 64)) = ((2 ^ (k % 64) : Nat) : Int) := by simp
    rw [IntKind.wrap_u64, e2]
    exact Int.emod_eq_of_lt (Int.natCast_nonneg _) (Int.ofNat_lt.2 hp)
  have e3 : modelAt lo hi (k + 1) s (k / 64) = modelAt lo hi k s (k / 64) ||| 2 ^ (k % 64) := by
    rw [modelAt, if_pos ⟨rfl, h1, h2⟩]
  rw [e, e3]
  exact u64_or_nat _ _ (modelAt_lt lo hi k s _ hs) hp

theorem model_miss (lo hi k s j : Nat) (h : ¬ (k / 64 = j ∧ lo ≤ k ∧ k ≤ hi)) : modelAt lo hi (k + 1) s j = modelAt lo hi k s j := by
  rw [modelAt, if_neg h]

theorem span_keep {lo hi k g : Nat} {S : Nat → Nat} {W0 wr : World} (h : ¬ (lo ≤ k ∧ k ≤ hi))
    (hR : (∀ j, j < 4 → wr.cell? ⟨g, j, none⟩ = some (.int .u64 (modelAt lo hi k (S j) j))) ∧ (∀ j, j < 4 → wr.frozen? ⟨g, j, none⟩ = false) ∧ W0.grownBy wr (some g)) :
    (∀ j, j < 4 → wr.cell? ⟨g, j, none⟩ = some (.int .u64 (modelAt lo hi (k + 1) (S j) j))) ∧ (∀ j, j < 4 → wr.frozen? ⟨g, j, none⟩ = false) ∧ W0.grownBy wr (some g) :=
  ⟨fun j hj => by rw [model_miss lo hi k (S j) j (by omega)]; exact hR.1 j hj, hR.2⟩

theorem grownBy_setCell' {w wr : World} {b : Nat} (hg : w.grownBy wr (some b)) (p : Addr) (hp : p.block = b) (v : Value) : w.grownBy (wr.setCell p v) (some b) :=
  ⟨hg.os, hg.tape, hg.output, by have := hg.size; simpa [World.setCell] using this,
    fun k hk hne => by
      rw [Below.heap_setCell _ _ _ _ (by intro e; exact hne (by rw [e, hp]))]
      exact hg.block k hk hne⟩

theorem span_step {lo hi k g : Nat} {S : Nat → Nat} {W0 wr : World} {v : Int} (hv : v = ((modelAt lo hi (k + 1) (S (k / 64)) (k / 64) : Nat) : Int))
    (hR : (∀ j, j < 4 → wr.cell? ⟨g, j, none⟩ = some (.int .u64 (modelAt lo hi k (S j) j))) ∧ (∀ j, j < 4 → wr.frozen? ⟨g, j, none⟩ = false) ∧ W0.grownBy wr (some g)) :
    (∀ j, j < 4 → (wr.setCell ⟨g, k / 64, none⟩ (.int .u64 v)).cell? ⟨g, j, none⟩ = some (.int .u64 (modelAt lo hi (k + 1) (S j) j))) ∧
    (∀ j, j < 4 → (wr.setCell ⟨g, k / 64, none⟩ (.int .u64 v)).frozen? ⟨g, j, none⟩ = false) ∧ W0.grownBy (wr.setCell ⟨g, k / 64, none⟩ (.int .u64 v)) (some g) := by
  obtain ⟨hc, hf, hg⟩ := hR
  refine ⟨fun j hj => ?_, fun j hj => ?_, grownBy_setCell' hg _ rfl _⟩
  · by_cases e : k / 64 = j
    · subst e
      rw [World.cell?_setCell_same _ _ _ (hc _ hj), hv]
    · rw [World.cell?_setCell_other _ _ _ _ (by intro h; injection h with _ h2; exact e h2), hc j hj, model_miss lo hi k (S j) j (by omega)]
  · rw [World.frozen?_setCell]
    exact hf j hj

set_option maxRecDepth 4000 in
set_option maxHeartbeats 400000 in
theorem span_in (lo hi : Nat) (hlo : lo ≤ 255) (hhi : hi ≤ 255) (s0 s1 s2 s3 : Nat) (h0 : s0 < 18446744073709551616) (h1 : s1 < 18446744073709551616) (h2 : s2 < 18446744073709551616) (h3 : s3 < 18446744073709551616) (w : World) :
    Calls Try.prog 5 #[.agg #[.int .u64 s0, .int .u64 s1, .int .u64 s2, .int .u64 s3], .int .i64 lo, .int .i64 hi] w fun e w' =>
      e = .returned (.bool true) ∧ Below w.heap.size w w' := by
  go_enter Try.func5, Try.ntmps5
  go_wp2_with fail
  refine (zzAddRange_full lo hi hlo hhi s0 s1 s2 s3 h0 h1 h2 h3 _).mono ?_
  rintro e w1 ⟨rfl, hb⟩
  have hz := hb.size
  have hlt : w.heap.size < w1.heap.size := by simp only [World.size_alloc] at hz; omega
  clear hz
  have d0 : w1.cell? ⟨w.heap.size, 0, none⟩ = some (.int .u64 s0) := (hb.cell (by simp)).trans (by go_simp)
  have d1 : w1.cell? ⟨w.heap.size, 1, none⟩ = some (.int .u64 s1) := (hb.cell (by simp)).trans (by go_simp)
  have d2 : w1.cell? ⟨w.heap.size, 2, none⟩ = some (.int .u64 s2) := (hb.cell (by simp)).trans (by go_simp)
  have d3 : w1.cell? ⟨w.heap.size, 3, none⟩ = some (.int .u64 s3) := (hb.cell (by simp)).trans (by go_simp)
  have HB : Hid (Below w.heap.size w w1) := ((Below.refl _ _).alloc (Nat.le_refl _) _).trans (hb.mono (by simp))
  clear hb
  go_wp2
  go_loopw [9] (fun i wr => ∃ k : Nat, k ≤ 256 ∧ i = .int .i64 k ∧ (∀ j, j < 4 → wr.cell? ⟨w1.heap.size + 1, j, none⟩ = some (.int .u64 (modelAt lo hi k (pick4 s0 s1 s2 s3 j) j))) ∧
      (∀ j, j < 4 → wr.frozen? ⟨w1.heap.size + 1, j, none⟩ = false) ∧ ((w1.alloc (.cells #[.int .u64 (full lo hi s0 0), .int .u64 (full lo hi s1 1), .int .u64 (full lo hi s2 2), .int .u64 (full lo hi s3 3)] 29)).alloc (.cells #[.int .u64 s0, .int .u64 s1, .int .u64 s2, .int .u64 s3] 29)).grownBy wr (some (w1.heap.size + 1)))
    (fun i _ => (256 - intOf i).toNat)
  case atStart =>
    refine ⟨0, Nat.zero_le _, rfl, ?_, ?_, World.grownBy.refl _ _⟩
    · intro j hj
      match j, hj with
      | 0, _ => go_simp; rfl
      | 1, _ => go_simp; rfl
      | 2, _ => go_simp; rfl
      | 3, _ => go_simp; rfl
    · intro j hj
      go_simp
  case round =>
    obtain ⟨k, hk, rfl, hcr, hfr, hg⟩ := hrel
    by_cases hk6 : k < 256
    · have hck := hcr (k / 64) (by omega)
      have hfk := hfr (k / 64) (by omega)
      have HR : Hid ((∀ j, j < 4 → wr.cell? ⟨w1.heap.size + 1, j, none⟩ = some (.int .u64 (modelAt lo hi k (pick4 s0 s1 s2 s3 j) j))) ∧ (∀ j, j < 4 → wr.frozen? ⟨w1.heap.size + 1, j, none⟩ = false) ∧ ((w1.alloc (.cells #[.int .u64 (full lo hi s0 0), .int .u64 (full lo hi s1 1), .int .u64 (full lo hi s2 2), .int .u64 (full lo hi s3 3)] 29)).alloc (.cells #[.int .u64 s0, .int .u64 s1, .int .u64 s2, .int .u64 s3] 29)).grownBy wr (some (w1.heap.size + 1))) := ⟨hcr, hfr, hg⟩
      clear hcr hfr hg d0 d1 d2 d3
      by_cases hin1 : lo ≤ k
      · by_cases hin2 : k ≤ hi
        · have hv := model_hit lo hi k (pick4 s0 s1 s2 s3 (k / 64)) hin1 hin2 (pick4_lt h0 h1 h2 h3 _)
          have HV := span_step hv HR.out
          have HV2 : Hid _ := HV
          clear hv HV
          go_wp2
          go_roundw
          case rel => exact ⟨k + 1, by omega, by go_num, HV2.out⟩
          case measure => simp [intOf]; omega
        · have HV2 : Hid _ := span_keep (lo := lo) (hi := hi) (by omega) HR.out
          go_wp2
          go_roundw
          case rel => exact ⟨k + 1, by omega, by go_num, HV2.out⟩
          case measure => simp [intOf]; omega
      · have HV2 : Hid _ := span_keep (lo := lo) (hi := hi) (by omega) HR.out
        go_wp2
        go_roundw
        case rel => exact ⟨k + 1, by omega, by go_num, HV2.out⟩
        case measure => simp [intOf]; omega
    · obtain rfl : k = 256 := by omega
      have e0 : wr.cell? ⟨w1.heap.size + 1, 0, none⟩ = some (.int .u64 (full lo hi s0 0)) := hcr 0 (by omega)
      have e1 : wr.cell? ⟨w1.heap.size + 1, 1, none⟩ = some (.int .u64 (full lo hi s1 1)) := hcr 1 (by omega)
      have e2 : wr.cell? ⟨w1.heap.size + 1, 2, none⟩ = some (.int .u64 (full lo hi s2 2)) := hcr 2 (by omega)
      have e3 : wr.cell? ⟨w1.heap.size + 1, 3, none⟩ = some (.int .u64 (full lo hi s3 3)) := hcr 3 (by omega)
      have g0 : wr.cell? ⟨w1.heap.size, 0, none⟩ = some (.int .u64 (full lo hi s0 0)) := hg.cell (by go_simp) (by simp)
      have g1 : wr.cell? ⟨w1.heap.size, 1, none⟩ = some (.int .u64 (full lo hi s1 1)) := hg.cell (by go_simp) (by simp)
      have g2 : wr.cell? ⟨w1.heap.size, 2, none⟩ = some (.int .u64 (full lo hi s2 2)) := hg.cell (by go_simp) (by simp)
      have g3 : wr.cell? ⟨w1.heap.size, 3, none⟩ = some (.int .u64 (full lo hi s3 3)) := hg.cell (by go_simp) (by simp)
      have hB : Hid (Below w.heap.size w wr) := by
        refine Below.grown ((HB.out.alloc (by omega) _).alloc (by simp; omega) _) hg (by simp; omega) ?_
        intro q hq
        injection hq with hq
        omega
      clear hcr hfr hg d0 d1 d2 d3 HB
      have heq := eql4 (full lo hi s0 0) (full lo hi s1 1) (full lo hi s2 2) (full lo hi s3 3)
      go_wp2
      go_ret
      exact ⟨rfl, hB.out⟩
end Go.Proofs.Qxb6603436a
