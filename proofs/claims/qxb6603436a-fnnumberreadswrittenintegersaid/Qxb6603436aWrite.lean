import Derived.Test.Qxb6603436aRows
import Derived.Test.Qxb6603436aWriteParts
import Derived.WalkKit
import Derived.WalkSpells
import Derived.WalkLawsBesides
namespace Go.Proofs.Qxb6603436a
open Go.RowKit
open Plain

theorem info5 : (Try.prog.info? 5).map (fun i => (i.zero, i.size, i.bytes)) = some (some (.int .u8 0), 1, 1) := by kernel_rfl

set_option maxRecDepth 4000 in
set_option maxHeartbeats 400000 in
theorem write_any (u : Nat) (hu : u < 18446744073709551616) (w : World) :
    Calls Try.prog 12 #[.int .u64 u] w fun e w' => ∃ (g : Nat) (D : List UInt8), e = .returned (.slice (some ⟨g, 0, none⟩) D.length D.length) ∧ w.heap.size < g ∧ D ≠ [] ∧ D.length ≤ 20 ∧ Wrote u 0 D ∧
      w'.ownsRow (w.heap.size + 1) 5 1 (.slice (some ⟨g, 0, none⟩) D.length D.length) D.length (cellsOf D) ∧ Below w.heap.size w w' := by
  go_enter Try.func12, Try.ntmps12
  go_wp2
  go_loopw [0, 4] (fun q i wr => ∃ (k v : Nat) (L : List UInt8), k ≤ 20 ∧ q = .int .u64 v ∧ i = .int .i64 k ∧ v ≤ u ∧ Wrote u v (L.drop k) ∧ (k = 20 ∨ v ≠ 0) ∧
      Buf wr w.heap.size L ∧ Below w.heap.size w wr ∧ w.heap.size < wr.heap.size) (fun _ i _ => (intOf i).toNat)
  case atStart =>
    exact ⟨20, u, List.replicate 20 0, Nat.le_refl _, rfl, rfl, Nat.le_refl _, wrote_start u, .inl rfl, buf_start w, (Below.refl _ _).alloc (Nat.le_refl _) _, by simp⟩
  case round =>
    obtain ⟨k, v, L, hk, rfl, rfl, hvu, hW, hor, hb, hB, hz⟩ := hrel
    have hk1 : 1 ≤ k := by
      rcases hor with h | h
      · omega
      · have := wrote_short hW hu h
        rw [List.length_drop, hb.1] at this
        omega
    obtain ⟨n, rfl⟩ : ∃ n, k = n + 1 := ⟨k - 1, by omega⟩
    have hcn := hb.2.1 n (by omega)
    have hfn := hb.2.2 n (by omega)
    have HW : Hid (Wrote u (v / 10) ((L.set n (digByte v)).drop n)) := wrote_round hb.1 (by omega) hW
    have HBf : Hid (Buf (wr.setCell ⟨w.heap.size, n, none⟩ (.int .u8 (48 + (v : Int) % 10))) w.heap.size (L.set n (digByte v))) := buf_step (by omega) hb rfl
    have HB : Hid (Below w.heap.size w (wr.setCell ⟨w.heap.size, n, none⟩ (.int .u8 (48 + (v : Int) % 10)))) := hB.setCell (Nat.le_refl _) _
    clear hW hb hB hor
    by_cases h10 : 10 ≤ v
    · go_wp2
      go_roundw
      case rel => exact ⟨n, v / 10, L.set n (digByte v), by omega, by go_num, rfl, by omega, HW.out, .inr (by omega), HBf.out, HB.out, by simpa [World.setCell] using hz⟩
      case measure => simp [intOf]
    · obtain ⟨N, hN1, hN2⟩ : ∃ N, n + N ≤ 20 ∧ 20 ≤ n + N := ⟨20 - n, by omega, by omega⟩
      obtain ⟨L2, hL2⟩ : ∃ L2, L2 = L.set n (digByte v) := ⟨_, rfl⟩
      obtain ⟨i0, hi, hz0, hz1, hz2⟩ := info_parts info5
      have HBY : Hid (i0.bytes * N ≤ 281474976710656 ∧ N ≤ maxLen ∧ w.heap.size + 1 ≤ (wr.setCell ⟨w.heap.size, n, none⟩ (.int .u8 (48 + (v : Int) % 10))).heap.size) := ⟨by rw [hz2]; omega, by unfold maxLen; omega, by simp [World.setCell]; omega⟩
      have HW2 : Hid (Wrote u 0 (L2.drop n)) := by
        have h := HW.out
        rw [← hL2, show v / 10 = 0 by omega] at h
        exact h
      have HBf2 : Hid (Buf (wr.setCell ⟨w.heap.size, n, none⟩ (.int .u8 (48 + (v : Int) % 10))) w.heap.size L2) := by rw [hL2]; exact HBf.out
      clear HW HBf hL2
      go_wp2_with (at_make; refine wpList_make_own _ rfl (.const (.int .i64 0)) (.tmp 20) 26 rfl (w.heap.size + 1) 5 i0 (.int .u8 0) 1 Try.underlying26 hi hz0 hz1 .i64 .i64 _ N rfl rfl (by omega) HBY.out.1 HBY.out.2.1 HBY.out.2.2 ?_; intro w3 hown3 hgrow3)
      have es : (wr.setCell ⟨w.heap.size, n, none⟩ (.int .u8 (48 + (v : Int) % 10))).heap.size = wr.heap.size := by simp [World.setCell]
      rw [es] at hown3
      clear es
      have hz3 : wr.heap.size < w3.heap.size := by
        rcases hown3.2 with ⟨h', _⟩ | ⟨g', cap', cur, h', _, hg, _⟩
        · simp at h'
        · simp only [Value.slice.injEq, Option.some.injEq, Addr.mk.injEq, and_true, true_and] at h'
          have := (Array.getElem?_eq_some_iff.1 hg).1
          omega
      have HBf3 : Hid (Buf w3 w.heap.size L2) := buf_kept HBf2.out hgrow3 (by simp)
      have HB3 : Hid (Below w.heap.size w w3) := HB.out.grown hgrow3 (by simp [World.setCell]; omega) (by simp)
      have HO3 : Hid (w3.ownsRow (w.heap.size + 1) 5 1 (.slice (some ⟨wr.heap.size, 0, none⟩) 0 N) 0 (cellsOf ((L2.drop n).take 0))) := hown3
      clear HB HBf2 hown3 hgrow3 HBY hcn hfn
      obtain ⟨g, hg⟩ : ∃ g, g = wr.heap.size := ⟨_, rfl⟩
      rw [← hg] at hz hz3 HO3 ⊢
      clear hg
      go_loopw [5, 6] (fun o i wq => ∃ m : Nat, n + m ≤ 20 ∧ i = .int .i64 ((n + m : Nat) : Int) ∧ o = .slice (some ⟨g, 0, none⟩) m N ∧ wq.ownsRow (w.heap.size + 1) 5 1 (.slice (some ⟨g, 0, none⟩) m N) m (cellsOf ((L2.drop n).take m)) ∧
          Buf wq w.heap.size L2 ∧ Below w.heap.size w wq ∧ g < wq.heap.size) (fun _ i _ => 20 - (intOf i).toNat)
      case atStart => exact ⟨0, by omega, rfl, rfl, HO3.out, HBf3.out, HB3.out, hz3⟩
      case round =>
        clear HO3 HBf3 HB3 hz3
        obtain ⟨m, hm, rfl, rfl, hown, hb, hB, hzq⟩ := hrel
        by_cases hlt : n + m < 20
        · have hcm := hb.2.1 (n + m) hlt
          have hL20 := hb.1
          obtain ⟨c, hc⟩ : ∃ c, c = L2.getD (n + m) 0 := ⟨_, rfl⟩
          rw [← hc] at hcm
          have HT : Hid (cellsOf ((L2.drop n).take (m + 1)) = cellsOf ((L2.drop n).take m) ++ [.int .u8 c.toNat]) := by
            show _ = _
            rw [take_drop_succ (by omega), cellsOf_append, ← hc]; rfl
          have HBf : Hid (Buf wr w.heap.size L2) := hb
          have HB : Hid (Below w.heap.size w wr) := hB
          have HO : Hid (wr.ownsRow (w.heap.size + 1) 5 1 (.slice (some ⟨g, 0, none⟩) m N) m (cellsOf ((L2.drop n).take m))) := hown
          clear hc hL20 hb hB hown
          go_wp2_with (at_builtin; refine wpList_append_fits _ rfl (.tmp 27) (.tmp 31) 26 rfl (w.heap.size + 1) 5 i0 1 Try.underlying26 hi hz1 g m N (cellsOf ((L2.drop n).take m)) rfl (HO.out.alloc _) ⟨wr.heap.size, 0, none⟩ 1 1 [.int .u8 c.toNat] rfl rfl (cell_one_new _ _ _) (by simp [Value.oneCell']) (by omega) ?_; intro w4 hown4 hgrow4)
          have hne : some w.heap.size ≠ some g := by intro e; injection e with e; omega
          have R1 : Buf w4 w.heap.size L2 := buf_kept (buf_kept HBf.out (World.grownBy_alloc wr _ none) (by simp)) hgrow4 hne
          have R2 : Below w.heap.size w w4 := by
            have hs := HB.out.size
            refine (HB.out.alloc hs _).grown hgrow4 (by simp; omega) ?_
            intro q hq
            injection hq with hq
            omega
          have R3 : g < w4.heap.size := by
            have hs := hgrow4.size
            simp at hs
            omega
          rw [← HT.out] at hown4
          go_roundw
          case rel => exact ⟨m + 1, by omega, by go_num, rfl, hown4, R1, R2, R3⟩
          case measure => simp [intOf]; omega
        · have hD : (L2.drop n).length = m := by rw [List.length_drop, hb.1]; omega
          have hT : (L2.drop n).take m = L2.drop n := List.take_of_length_le (by omega)
          rw [hT] at hown
          have hNm : N = m := by omega
          have HF : Hid ((L2.drop n).length = m ∧ N = m ∧ wr.ownsRow (w.heap.size + 1) 5 1 (.slice (some ⟨g, 0, none⟩) (L2.drop n).length (L2.drop n).length) (L2.drop n).length (cellsOf (L2.drop n)) ∧ Below w.heap.size w wr) := by
            refine ⟨hD, hNm, ?_, hB⟩
            rw [hD]
            rw [hNm] at hown
            exact hown
          have hlen0 : 1 ≤ m := by omega
          clear hD hT hown hNm hb hB
          go_wp2
          go_ret
          obtain ⟨f1, f2, f3, f4⟩ := HF.out
          exact ⟨g, L2.drop n, ret_slice f1.symm (f2.trans f1.symm), hz, by intro e; rw [e] at f1; simp at f1; omega, by omega, HW2.out, f3, f4⟩
end Go.Proofs.Qxb6603436a
