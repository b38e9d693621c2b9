import Derived.Test.Qxb6603436aAddRange
namespace Go.Proofs.Qxb6603436a
open Go.RowKit
open Plain

/-- How many words addRange walks to. -/
def upTo (lo hi : Nat) : Nat := max (lo / 64) (hi / 64 + 1)

theorem addRange_four (b : Nat) (lo hi : Nat) (hlo : lo ≤ 255) (hhi : hi ≤ 255) (s0 s1 s2 s3 : Nat) (h0 : s0 < 18446744073709551616) (h1 : s1 < 18446744073709551616) (h2 : s2 < 18446744073709551616) (h3 : s3 < 18446744073709551616) (w : World)
    (c0 : w.cell? ⟨b, 0, none⟩ = some (.int .u64 s0)) (c1 : w.cell? ⟨b, 1, none⟩ = some (.int .u64 s1)) (c2 : w.cell? ⟨b, 2, none⟩ = some (.int .u64 s2)) (c3 : w.cell? ⟨b, 3, none⟩ = some (.int .u64 s3))
    (hf : ∀ i, i < 4 → w.frozen? ⟨b, i, none⟩ = false) :
    Calls Try.prog 17 #[.pointer (some ⟨b, 0, none⟩), .int .i64 lo, .int .i64 hi] w fun e w' => e = .returned (.tuple #[]) ∧
      w'.cell? ⟨b, 0, none⟩ = some (.int .u64 (wordAt lo hi (upTo lo hi) s0 0)) ∧ w'.cell? ⟨b, 1, none⟩ = some (.int .u64 (wordAt lo hi (upTo lo hi) s1 1)) ∧
      w'.cell? ⟨b, 2, none⟩ = some (.int .u64 (wordAt lo hi (upTo lo hi) s2 2)) ∧ w'.cell? ⟨b, 3, none⟩ = some (.int .u64 (wordAt lo hi (upTo lo hi) s3 3)) ∧ w.grownBy w' (some b) := by
  have hS : ∀ i, i < 4 → [s0, s1, s2, s3].getD i 0 < 18446744073709551616 := by
    intro i hi
    match i, hi with
    | 0, _ => exact h0
    | 1, _ => exact h1
    | 2, _ => exact h2
    | 3, _ => exact h3
  have hc : ∀ i, i < 4 → w.cell? ⟨b, i, none⟩ = some (.int .u64 (([s0, s1, s2, s3].getD i 0 : Nat) : Int)) := by
    intro i hi
    match i, hi with
    | 0, _ => exact c0
    | 1, _ => exact c1
    | 2, _ => exact c2
    | 3, _ => exact c3
  refine (addRange_any b lo hi hlo hhi (fun i => [s0, s1, s2, s3].getD i 0) hS w hc hf).mono ?_
  rintro e w' ⟨he, hcs, hg⟩
  exact ⟨he, hcs 0 (by omega), hcs 1 (by omega), hcs 2 (by omega), hcs 3 (by omega), hg⟩

set_option maxHeartbeats 400000 in
theorem zzAddRange_any (lo hi : Nat) (hlo : lo ≤ 255) (hhi : hi ≤ 255) (s0 s1 s2 s3 : Nat) (h0 : s0 < 18446744073709551616) (h1 : s1 < 18446744073709551616) (h2 : s2 < 18446744073709551616) (h3 : s3 < 18446744073709551616) (w : World) :
    Calls Try.prog 13 #[.agg #[.int .u64 s0, .int .u64 s1, .int .u64 s2, .int .u64 s3], .int .i64 lo, .int .i64 hi] w fun e w' =>
      e = .returned (.agg #[.int .u64 (wordAt lo hi (upTo lo hi) s0 0), .int .u64 (wordAt lo hi (upTo lo hi) s1 1), .int .u64 (wordAt lo hi (upTo lo hi) s2 2), .int .u64 (wordAt lo hi (upTo lo hi) s3 3)]) ∧ Below w.heap.size w w' := by
  go_enter Try.func13, Try.ntmps13
  go_wp2_with fail
  refine (addRange_four (w.heap.size + 1 + 1) lo hi hlo hhi s0 s1 s2 s3 h0 h1 h2 h3 _ ?_ ?_ ?_ ?_ ?_).mono ?_
  · go_simp
  · go_simp
  · go_simp
  · go_simp
  · go_simp
  · rintro e w1 ⟨rfl, c0, c1, c2, c3, hg⟩
    have hB : Below w.heap.size w w1 := by
      refine Below.grown ((((Below.refl _ _).alloc (Nat.le_refl _) _).alloc (by simp) _).alloc (by simp; omega) _) hg (by simp; omega) ?_
      intro k hk
      injection hk with hk
      omega
    have hz := hg.size
    simp only [World.size_alloc] at hz
    have d0 : w1.cell? ⟨w.heap.size + 1, 0, none⟩ = some (.int .u64 0) := hg.cell (by go_simp) (by simp)
    have d1 : w1.cell? ⟨w.heap.size + 1, 1, none⟩ = some (.int .u64 0) := hg.cell (by go_simp) (by simp)
    have d2 : w1.cell? ⟨w.heap.size + 1, 2, none⟩ = some (.int .u64 0) := hg.cell (by go_simp) (by simp)
    have d3 : w1.cell? ⟨w.heap.size + 1, 3, none⟩ = some (.int .u64 0) := hg.cell (by go_simp) (by simp)
    have hfz : ∀ i, w1.frozen? ⟨w.heap.size + 1, i, none⟩ = false := by
      intro i
      rw [World.frozen?_of_block (hg.block (w.heap.size + 1) (by simp) (by simp))]
      go_simp
    clear hg
    go_wp2
    exact bodyPost_ret (v := .agg #[.int .u64 (wordAt lo hi (upTo lo hi) s0 0), .int .u64 (wordAt lo hi (upTo lo hi) s1 1), .int .u64 (wordAt lo hi (upTo lo hi) s2 2), .int .u64 (wordAt lo hi (upTo lo hi) s3 3)]) (by simp [results, Try.results13, go_sem, d0, d1, d2, d3]) rfl
      ⟨rfl, (((hB.setCell (by simp) _).setCell (by simp) _).setCell (by simp) _).setCell (by simp) _⟩

/-- The model's word behind all its turns. -/
def full (lo hi s i : Nat) : Nat := modelAt lo hi 256 s i

theorem word_full (lo hi s i : Nat) (hs : s < 18446744073709551616) (hi4 : i < 4) : wordAt lo hi (upTo lo hi) s i = full lo hi s i :=
  word_eq_model lo hi (upTo lo hi) s i hs hi4 (by unfold upTo; omega)

theorem zzAddRange_full (lo hi : Nat) (hlo : lo ≤ 255) (hhi : hi ≤ 255) (s0 s1 s2 s3 : Nat) (h0 : s0 < 18446744073709551616) (h1 : s1 < 18446744073709551616) (h2 : s2 < 18446744073709551616) (h3 : s3 < 18446744073709551616) (w : World) :
    Calls Try.prog 13 #[.agg #[.int .u64 s0, .int .u64 s1, .int .u64 s2, .int .u64 s3], .int .i64 lo, .int .i64 hi] w fun e w' =>
      e = .returned (.agg #[.int .u64 (full lo hi s0 0), .int .u64 (full lo hi s1 1), .int .u64 (full lo hi s2 2), .int .u64 (full lo hi s3 3)]) ∧ Below w.heap.size w w' := by
  have h := zzAddRange_any lo hi hlo hhi s0 s1 s2 s3 h0 h1 h2 h3 w
  rw [word_full lo hi s0 0 h0 (by omega), word_full lo hi s1 1 h1 (by omega), word_full lo hi s2 2 h2 (by omega), word_full lo hi s3 3 h3 (by omega)] at h
  exact h
end Go.Proofs.Qxb6603436a
