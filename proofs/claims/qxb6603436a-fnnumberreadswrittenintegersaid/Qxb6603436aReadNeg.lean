import Derived.Test.Qxb6603436aReadPos
namespace Go.Proofs.Qxb6603436a
open Go.RowKit
open Plain

theorem wrap_bd (x : Int) : 0 ≤ IntKind.u64.wrap x ∧ IntKind.u64.wrap x < 18446744073709551616 := by
  rw [IntKind.wrap_u64]; omega

set_option maxRecDepth 4000 in
set_option maxHeartbeats 2000000 in
theorem read_neg (a : Int) (z : Nat) (ha0 : a < 0) (hzz : z ≤ 4096) (w : World) :
    Calls Try.prog 4 #[.int .i64 a, .int .i64 z] w fun e w' => e = .returned (.bool true) ∧ Below w.heap.size w w' := by
  obtain ⟨i0, hi, hz0, hz1, hz2⟩ := info_parts info5
  go_enter Try.func4, Try.ntmps4
  go_wp2_with fail
  refine (write_int _ (wrap_bd _).1 (wrap_bd _).2 _).mono ?_
  rintro e w1 ⟨g, D, rfl, hg, hD0, hD20, hW, hown, hB⟩
  obtain ⟨C, hC1, hC2⟩ : ∃ C, z + D.length + 1 ≤ C ∧ C ≤ z + D.length + 1 := ⟨_, Nat.le_refl _, Nat.le_refl _⟩
  have HO : Hid (w1.ownsRow (w.heap.size + 1) 5 1 (.slice (some ⟨g, 0, none⟩) D.length D.length) D.length (cellsOf D)) := hown
  have HB : Hid (Below w.heap.size w w1) := hB
  have hgz : g < w1.heap.size := row_lt hown
  have HBY : Hid (i0.bytes * C ≤ 281474976710656 ∧ C ≤ maxLen ∧ w.heap.size + 1 ≤ w1.heap.size) := ⟨by rw [hz2]; omega, by unfold maxLen; omega, by omega⟩
  clear hown hB hW hD0
  go_wp2_with (first | (at_make; refine wpList_make_own _ rfl (.const (.int .i64 0)) (.tmp 32) 26 rfl (w.heap.size + 1) 5 i0 (.int .u8 0) 1 Try.underlying26 hi hz0 hz1 .i64 .i64 _ C rfl rfl (by omega) HBY.out.1 HBY.out.2.1 HBY.out.2.2 ?_; intro w3 hown3 hgrow3) | (at_builtin; refine wpList_append_fits _ rfl (.tmp 35) (.tmp 36) 26 rfl (w.heap.size + 1) 5 i0 1 Try.underlying26 hi hz1 w1.heap.size 0 C [] rfl (hown3.alloc _) ⟨w3.heap.size, 0, none⟩ 1 1 [.int .u8 45] rfl rfl (cell_one_new _ _ _) (by simp [Value.oneCell']) (by omega) ?_; intro w4 hown4 hgrow4; simp only [Nat.zero_add, List.nil_append] at hown4))
  have hz3 : w1.heap.size < w3.heap.size := row_lt hown3
  have HO4 : Hid (w4.ownsRow (w.heap.size + 1) 5 1 (.slice (some ⟨w1.heap.size, 0, none⟩) (0 + 1) C) (0 + 1) (cellsOf (45 :: List.replicate 0 48))) := hown4
  have HR : Hid (w4.ownsRow (w.heap.size + 1) 5 1 (.slice (some ⟨g, 0, none⟩) D.length D.length) D.length (cellsOf D) ∧ Below w.heap.size w w4 ∧ w1.heap.size < w4.heap.size) :=
    round_kept (HO.out.kept hgrow3 (Or.inr (by simp [Value.ownBlock]))) (HB.out.grown hgrow3 (by omega) (by simp)) hgz hz3 hg hgrow4
  clear HO HB hown3 hgrow3 hown4 hgrow4
  go_loopw [8, 9] (fun t i wq => ∃ k : Nat, k ≤ z ∧ i = .int .i64 k ∧ t = .slice (some ⟨w1.heap.size, 0, none⟩) (k + 1) C ∧ wq.ownsRow (w.heap.size + 1) 5 1 (.slice (some ⟨w1.heap.size, 0, none⟩) (k + 1) C) (k + 1) (cellsOf (45 :: List.replicate k 48)) ∧
      wq.ownsRow (w.heap.size + 1) 5 1 (.slice (some ⟨g, 0, none⟩) D.length D.length) D.length (cellsOf D) ∧ Below w.heap.size w wq ∧ w1.heap.size < wq.heap.size) (fun _ i _ => z - (intOf i).toNat)
  case atStart => exact ⟨0, by omega, rfl, rfl, HO4.out, HR.out⟩
  case round =>
    clear HO4 HR hz3
    obtain ⟨k, hk, rfl, rfl, hown, hdig, hB, hzq⟩ := hrel
    have HO : Hid (wr.ownsRow (w.heap.size + 1) 5 1 (.slice (some ⟨w1.heap.size, 0, none⟩) (k + 1) C) (k + 1) (cellsOf (45 :: List.replicate k 48))) := hown
    have HG : Hid (wr.ownsRow (w.heap.size + 1) 5 1 (.slice (some ⟨g, 0, none⟩) D.length D.length) D.length (cellsOf D)) := hdig
    have HB : Hid (Below w.heap.size w wr) := hB
    clear hown hdig hB
    by_cases hlt : k < z
    · go_wp2_with (at_builtin; refine wpList_append_fits _ rfl (.tmp 43) (.tmp 44) 26 rfl (w.heap.size + 1) 5 i0 1 Try.underlying26 hi hz1 w1.heap.size (k + 1) C (cellsOf (45 :: List.replicate k 48)) rfl (HO.out.alloc _) ⟨wr.heap.size, 0, none⟩ 1 1 [.int .u8 48] rfl rfl (cell_one_new _ _ _) (by simp [Value.oneCell']) (by omega) ?_; intro w4 hown4 hgrow4)
      have R := round_kept HG.out HB.out hgz hzq hg hgrow4
      have HT : cellsOf (45 :: List.replicate k 48) ++ [Value.int .u8 48] = cellsOf (45 :: List.replicate (k + 1) 48) := by rw [rep_succ, ← List.cons_append, cellsOf_append]; rfl
      rw [HT] at hown4
      go_roundw
      case rel => exact ⟨k + 1, by omega, by go_num, rfl, hown4, R⟩
      case measure => simp [intOf]; omega
    · obtain ⟨T, hT⟩ : ∃ T, T = 45 :: (List.replicate k 48 ++ D) := ⟨_, rfl⟩
      have HT1 : Hid (cellsOf (45 :: List.replicate k 48) ++ cellsOf D = cellsOf T) := by show _ = _; rw [hT, ← cellsOf_append]; rfl
      have HTl : Hid (T.length = k + 1 + D.length) := by show _ = _; rw [hT]; simp; omega
      have HK : Hid (numOk T = false) := by rw [hT]; exact (num_signed _).1
      have HN : Hid (numN T = 0) := by rw [hT]; exact (num_signed _).2
      have HTm : Hid (T.length ≤ maxLen) := by
        have h := HTl.out
        show _ ≤ _
        rw [h]; unfold maxLen; omega
      have HLD : Hid ((cellsOf D).length = D.length * 1) := (length_cellsOf D).trans (Nat.mul_one _).symm
      have HCD : Hid (∀ j v, (cellsOf D)[j]? = some v → wr.cell? ((⟨g, 0, none⟩ : Addr).add j) = some v) := dig_cells HG.out
      have HBe : Hid (∀ w5, wr.grownBy w5 (some w1.heap.size) → Below w.heap.size w w5) := by
        intro w5 h5
        have hs := HB.out.size
        refine HB.out.grown h5 hs ?_
        intro q hq
        injection hq with hq
        omega
      clear hT HG HB
      go_wp2_with (first | (at_builtin; refine wpList_append_fits _ rfl (.tmp 46) (.tmp 47) 26 rfl (w.heap.size + 1) 5 i0 1 Try.underlying26 hi hz1 w1.heap.size (k + 1) C (cellsOf (45 :: List.replicate k 48)) rfl HO.out ⟨g, 0, none⟩ D.length D.length (cellsOf D) rfl HLD.out HCD.out (cellsOf_one D) (by omega) ?_; intro w5 hown5 hgrow5; rw [HT1.out] at hown5; have hcv := conv_row HTl.out hown5; clear hown5) | (go_at_call 10; refine (zznumber_val T _ _ _ HTm.out HN.out HK.out).mono ?_; rintro e w' ⟨rfl, rfl⟩))
      go_ret
      exact ⟨rfl, HBe.out _ hgrow5⟩
end Go.Proofs.Qxb6603436a
