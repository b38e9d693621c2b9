import Derived.Test.Qxb6603436aReadParts
namespace Go.Proofs.Qxb6603436a
open Go.RowKit
open Plain

theorem row_lt {W : World} {base e size g n C : Nat} {xs : List Value} (h : W.ownsRow base e size (.slice (some ⟨g, 0, none⟩) n C) n xs) : g < W.heap.size := by
  rcases h.2 with ⟨h', _⟩ | ⟨g', cap', cur, h', _, hg, _⟩
  · simp at h'
  · simp only [Value.slice.injEq, Option.some.injEq, Addr.mk.injEq, and_true, true_and] at h'
    have := (Array.getElem?_eq_some_iff.1 hg).1
    omega

/-- Behind 'append(text, c)': the digits' row, old memory and the text's block stand. -/
theorem round_kept {w wr w4 : World} {g G : Nat} {o : Obj} {D : List UInt8} (hdig : wr.ownsRow (w.heap.size + 1) 5 1 (.slice (some ⟨g, 0, none⟩) D.length D.length) D.length (cellsOf D)) (hB : Below w.heap.size w wr) (hgG : g < G) (hG : G < wr.heap.size) (hg : w.heap.size < g)
    (hgrow : (wr.alloc o).grownBy w4 (some G)) : w4.ownsRow (w.heap.size + 1) 5 1 (.slice (some ⟨g, 0, none⟩) D.length D.length) D.length (cellsOf D) ∧ Below w.heap.size w w4 ∧ G < w4.heap.size := by
  refine ⟨(hdig.alloc o).kept hgrow (Or.inr ?_), ?_, ?_⟩
  · intro e
    simp only [Value.ownBlock, Option.some.injEq] at e
    omega
  · have hs := hB.size
    refine (hB.alloc hs o).grown hgrow (by simp; omega) ?_
    intro q hq
    injection hq with hq
    omega
  · have hs := hgrow.size
    simp at hs
    omega

theorem dig_cells {W : World} {base g C : Nat} {D : List UInt8} (h : W.ownsRow base 5 1 (.slice (some ⟨g, 0, none⟩) D.length C) D.length (cellsOf D)) :
    ∀ j v, (cellsOf D)[j]? = some v → W.cell? ((⟨g, 0, none⟩ : Addr).add j) = some v := by
  intro j v hj
  have hjl : j < D.length := by
    have := (List.getElem?_eq_some_iff.1 hj).1
    rw [length_cellsOf] at this; exact this
  have e : ((⟨g, 0, none⟩ : Addr).add j) = ⟨g, j, none⟩ := by
    simp only [Addr.add, Nat.zero_add]
    split
    · rename_i h; rw [h]
    · rfl
  rw [e, h.cellAt j (by omega), hj]

theorem write_int (a : Int) (h0 : 0 ≤ a) (h1 : a < 18446744073709551616) (w : World) :
    Calls Try.prog 12 #[.int .u64 a] w fun e w' => ∃ (g : Nat) (D : List UInt8), e = .returned (.slice (some ⟨g, 0, none⟩) D.length D.length) ∧ w.heap.size < g ∧ D ≠ [] ∧ D.length ≤ 20 ∧ Wrote a.toNat 0 D ∧
      w'.ownsRow (w.heap.size + 1) 5 1 (.slice (some ⟨g, 0, none⟩) D.length D.length) D.length (cellsOf D) ∧ Below w.heap.size w w' := by
  obtain ⟨u, rfl⟩ := Int.eq_ofNat_of_zero_le h0
  exact write_any u (by omega) w

set_option maxRecDepth 4000 in
set_option maxHeartbeats 2000000 in
theorem read_pos (a : Int) (z : Nat) (ha0 : 0 ≤ a) (ha1 : a ≤ 9223372036854775807) (hzz : z ≤ 4096) (w : World) :
    Calls Try.prog 4 #[.int .i64 a, .int .i64 z] w fun e w' => e = .returned (.bool true) ∧ Below w.heap.size w w' := by
  obtain ⟨i0, hi, hz0, hz1, hz2⟩ := info_parts info5
  go_enter Try.func4, Try.ntmps4
  go_wp2_with fail
  refine (write_int a ha0 (by omega) _).mono ?_
  rintro e w1 ⟨g, D, rfl, hg, hD0, hD20, hW, hown, hB⟩
  obtain ⟨C, hC1, hC2⟩ : ∃ C, z + D.length + 1 ≤ C ∧ C ≤ z + D.length + 1 := ⟨_, Nat.le_refl _, Nat.le_refl _⟩
  have HO : Hid (w1.ownsRow (w.heap.size + 1) 5 1 (.slice (some ⟨g, 0, none⟩) D.length D.length) D.length (cellsOf D)) := hown
  have HB : Hid (Below w.heap.size w w1) := hB
  have HW : Hid (Wrote a.toNat 0 D) := hW
  have HD : Hid (D ≠ []) := hD0
  have hgz : g < w1.heap.size := row_lt hown
  have HBY : Hid (i0.bytes * C ≤ 281474976710656 ∧ C ≤ maxLen ∧ w.heap.size + 1 ≤ w1.heap.size) := ⟨by rw [hz2]; omega, by unfold maxLen; omega, by omega⟩
  clear hown hB hW hD0
  go_wp2_with (at_make; refine wpList_make_own _ rfl (.const (.int .i64 0)) (.tmp 32) 26 rfl (w.heap.size + 1) 5 i0 (.int .u8 0) 1 Try.underlying26 hi hz0 hz1 .i64 .i64 _ C rfl rfl (by omega) HBY.out.1 HBY.out.2.1 HBY.out.2.2 ?_; intro w3 hown3 hgrow3)
  have hz3 : w1.heap.size < w3.heap.size := row_lt hown3
  have HO3 : Hid (w3.ownsRow (w.heap.size + 1) 5 1 (.slice (some ⟨w1.heap.size, 0, none⟩) 0 C) 0 (cellsOf (List.replicate 0 48))) := hown3
  have HD3 : Hid (w3.ownsRow (w.heap.size + 1) 5 1 (.slice (some ⟨g, 0, none⟩) D.length D.length) D.length (cellsOf D)) := HO.out.kept hgrow3 (Or.inr (by simp [Value.ownBlock]))
  have HB3 : Hid (Below w.heap.size w w3) := HB.out.grown hgrow3 (by omega) (by simp)
  clear HO HB hown3 hgrow3
  go_loopw [8, 9] (fun t i wq => ∃ k : Nat, k ≤ z ∧ i = .int .i64 k ∧ t = .slice (some ⟨w1.heap.size, 0, none⟩) k C ∧ wq.ownsRow (w.heap.size + 1) 5 1 (.slice (some ⟨w1.heap.size, 0, none⟩) k C) k (cellsOf (List.replicate k 48)) ∧
      wq.ownsRow (w.heap.size + 1) 5 1 (.slice (some ⟨g, 0, none⟩) D.length D.length) D.length (cellsOf D) ∧ Below w.heap.size w wq ∧ w1.heap.size < wq.heap.size) (fun _ i _ => z - (intOf i).toNat)
  case atStart => exact ⟨0, by omega, rfl, rfl, HO3.out, HD3.out, HB3.out, hz3⟩
  case round =>
    clear HO3 HD3 HB3 hz3
    obtain ⟨k, hk, rfl, rfl, hown, hdig, hB, hzq⟩ := hrel
    have HO : Hid (wr.ownsRow (w.heap.size + 1) 5 1 (.slice (some ⟨w1.heap.size, 0, none⟩) k C) k (cellsOf (List.replicate k 48))) := hown
    have HG : Hid (wr.ownsRow (w.heap.size + 1) 5 1 (.slice (some ⟨g, 0, none⟩) D.length D.length) D.length (cellsOf D)) := hdig
    have HB : Hid (Below w.heap.size w wr) := hB
    clear hown hdig hB
    by_cases hlt : k < z
    · go_wp2_with (at_builtin; refine wpList_append_fits _ rfl (.tmp 43) (.tmp 44) 26 rfl (w.heap.size + 1) 5 i0 1 Try.underlying26 hi hz1 w1.heap.size k C (cellsOf (List.replicate k 48)) rfl (HO.out.alloc _) ⟨wr.heap.size, 0, none⟩ 1 1 [.int .u8 48] rfl rfl (cell_one_new _ _ _) (by simp [Value.oneCell']) (by omega) ?_; intro w4 hown4 hgrow4)
      have R := round_kept HG.out HB.out hgz hzq hg hgrow4
      have HT : cellsOf (List.replicate k 48) ++ [Value.int .u8 48] = cellsOf (List.replicate (k + 1) 48) := by rw [rep_succ, cellsOf_append]; rfl
      rw [HT] at hown4
      go_roundw
      case rel => exact ⟨k + 1, by omega, by go_num, rfl, hown4, R⟩
      case measure => simp [intOf]; omega
    · obtain ⟨T, hT⟩ : ∃ T, T = List.replicate k 48 ++ D := ⟨_, rfl⟩
      have HT1 : Hid (cellsOf (List.replicate k 48) ++ cellsOf D = cellsOf T) := by show _ = _; rw [hT, cellsOf_append]
      have HTl : Hid (T.length = k + D.length) := by show _ = _; rw [hT]; simp
      have HOk : Hid (numOk T = true ∧ numN T = min (a.toNat : Int) 65536) := by rw [hT]; exact num_written k D a.toNat HW.out HD.out
      have HTm : Hid (T.length ≤ maxLen) := by
        have h := HTl.out
        show _ ≤ _
        rw [h]; unfold maxLen; omega
      have HLD : Hid ((cellsOf D).length = D.length * 1) := (length_cellsOf D).trans (Nat.mul_one _).symm
      have HCD : Hid (∀ j v, (cellsOf D)[j]? = some v → wr.cell? ((⟨g, 0, none⟩ : Addr).add j) = some v) := dig_cells HG.out
      have HBe : Hid (∀ w5, wr.grownBy w5 (some w1.heap.size) → Below w.heap.size w w5) := by
        intro w5 h5
        have hs := HB.out.size
        refine HB.out.grown h5 hs ?_
        intro q hq
        injection hq with hq
        omega
      clear hT HG HB
      by_cases hcap : a < 65536
      · have HN : Hid (numN T = a) := by show _ = _; rw [HOk.out.2]; omega
        have HK : Hid (numOk T = true) := HOk.out.1
        clear HOk
        go_wp2_with (first | (at_builtin; refine wpList_append_fits _ rfl (.tmp 46) (.tmp 47) 26 rfl (w.heap.size + 1) 5 i0 1 Try.underlying26 hi hz1 w1.heap.size k C (cellsOf (List.replicate k 48)) rfl HO.out ⟨g, 0, none⟩ D.length D.length (cellsOf D) rfl HLD.out HCD.out (cellsOf_one D) (by omega) ?_; intro w5 hown5 hgrow5; rw [HT1.out] at hown5; have hcv := conv_row HTl.out hown5; clear hown5) | (go_at_call 10; refine (zznumber_val T _ _ _ HTm.out HN.out HK.out).mono ?_; rintro e w' ⟨rfl, rfl⟩))
        go_ret
        exact ⟨rfl, HBe.out _ hgrow5⟩
      · have HN : Hid (numN T = 65536) := by show _ = _; rw [HOk.out.2]; omega
        have HK : Hid (numOk T = true) := HOk.out.1
        clear HOk
        go_wp2_with (first | (at_builtin; refine wpList_append_fits _ rfl (.tmp 46) (.tmp 47) 26 rfl (w.heap.size + 1) 5 i0 1 Try.underlying26 hi hz1 w1.heap.size k C (cellsOf (List.replicate k 48)) rfl HO.out ⟨g, 0, none⟩ D.length D.length (cellsOf D) rfl HLD.out HCD.out (cellsOf_one D) (by omega) ?_; intro w5 hown5 hgrow5; rw [HT1.out] at hown5; have hcv := conv_row HTl.out hown5; clear hown5) | (go_at_call 10; refine (zznumber_val T _ _ _ HTm.out HN.out HK.out).mono ?_; rintro e w' ⟨rfl, rfl⟩))
        go_ret
        exact ⟨rfl, HBe.out _ hgrow5⟩
end Go.Proofs.Qxb6603436a
