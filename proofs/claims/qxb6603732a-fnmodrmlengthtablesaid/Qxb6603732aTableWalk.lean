import Derived.Test.Qxb6603732aShared
import Derived.Test.Qxb6603732aMtable
namespace Go.Proofs.Qxb6603732a
open Go.RowKit

theorem table_big (a : Option Addr) (len cap : Nat) (hm : len ≤ maxLen) (hb : 65536 < len) (w : World) :
    Calls Try.prog 3 #[.slice a len cap] w fun e w' => e = .returned (.bool true) ∧ Below w.heap.size w w' := by
  unfold maxLen at hm
  by_cases h2 : 1048576 < len
  · go_enter Try.func3, Try.ntmps3
    go_wp2
    go_ret
    exact ⟨rfl, Below.refl _ _⟩
  · go_enter Try.func3, Try.ntmps3
    go_wp2
    go_ret
    exact ⟨rfl, Below.refl _ _⟩

theorem table_nil (w : World) :
    Calls Try.prog 3 #[.slice none 0 0] w fun e w' => e = .returned (.bool true) ∧ Below w.heap.size w w' := by
  have hn := neq_nil none 0 0
  go_enter Try.func3, Try.ntmps3
  go_wp2_with (first | (go_at_call 7; refine (zzmodrm_none _ _ _).mono ?_; rintro e w' ⟨rfl, rfl⟩) | (go_at_call 8; refine (mtable_none _ _ _).mono ?_; rintro e w' ⟨rfl, rfl⟩) | go_in)
  go_ret
  exact ⟨rfl, Below.refl _ _⟩

theorem zzmodrm_empty (a : Option Addr) (len cap : Nat) (w : World) (h : len ≤ 0) :
    Calls Try.prog 7 #[.slice a len cap] w fun e w' => e = .returned (.int .i64 0) ∧ w' = w := by
  obtain rfl : len = 0 := by omega
  exact zzmodrm_none a cap w
theorem mtable_empty (a : Option Addr) (len cap : Nat) (w : World) (h : len ≤ 0) :
    Calls Try.prog 8 #[.slice a len cap] w fun e w' => e = .returned (.int .i64 0) ∧ w' = w := by
  obtain rfl : len = 0 := by omega
  exact mtable_none a cap w

set_option maxHeartbeats 400000 in
theorem table_row (x : Addr) (len cap : Nat) (zs : List Int) (w : World) (hl : len ≤ 65536) (hlc : len ≤ zs.length)
    (hcell : ∀ i, i < zs.length → w.cell? (x.add i) = some (.int .u8 (zs.getD i 0))) (hwz : ∀ n ∈ zs, (Lit.int .u8 n).wf = true) :
    Calls Try.prog 3 #[.slice (some x) len cap] w fun e w' => e = .returned (.bool true) ∧ Below w.heap.size w w' := by
  have hn := neq_nil (some x) len cap
  have hmk := mk_run len (by omega)
  have b0 := byte_bd hwz 0
  have b1 := byte_bd hwz 1
  obtain ⟨x0, hx0⟩ : ∃ x0, x0 = zs.getD 0 0 := ⟨_, rfl⟩
  obtain ⟨y0, hy0⟩ : ∃ y0, y0 = zs.getD 1 0 := ⟨_, rfl⟩
  obtain ⟨w2, hcp, hc2, hB2, hz2⟩ := copy_run x len cap zs w hlc hcell
  have HZ : Hid (w2.heap.size = w.heap.size + 1) := hz2
  have HC : Hid (∀ j, j < len → w2.cell? ⟨w.heap.size, j, none⟩ = some (.int .u8 (zs.getD j 0))) := hc2
  have HB : Hid (Below w.heap.size w w2) := hB2
  clear hcell hwz hc2 hB2 hz2
  by_cases h0 : len = 0
  · have h1 : len ≤ 0 := by omega
    clear h0
    go_enter Try.func3, Try.ntmps3
    go_wp2_with (first | (go_at_call 7; refine (zzmodrm_empty _ len _ _ h1).mono ?_; rintro e w' ⟨rfl, rfl⟩) | (go_at_call 8; refine (mtable_empty _ len _ _ h1).mono ?_; rintro e w' ⟨rfl, rfl⟩) | (go_at_call 6; go_in))
    go_ret
    exact ⟨rfl, HB.out⟩
  · have c0 : w2.cell? ⟨w.heap.size, 0, none⟩ = some (.int .u8 x0) := by rw [hx0]; exact HC.out 0 (by omega)
    have c1 : 1 < len → w2.cell? ⟨w.heap.size, 0 + 1, none⟩ = some (.int .u8 y0) := fun h => by rw [hy0]; exact HC.out 1 h
    rw [← hx0] at b0
    rw [← hy0] at b1
    clear hx0 hy0
    have C1 : Hid (1 < len → w2.cell? ⟨w.heap.size, 0 + 1, none⟩ = some (.int .u8 y0)) := c1
    clear c1
    go_enter Try.func3, Try.ntmps3
    go_wp2_with (first | (go_at_call 7; refine (zzmodrm_any w.heap.size 0 len len x0 y0 b0.1 b0.2 b1.1 b1.2 _ (by omega) (by omega) c0 C1.out).mono ?_; rintro e w' ⟨rfl, rfl⟩) | (go_at_call 8; refine (mtable_any w.heap.size 0 len len x0 y0 b0.1 b0.2 b1.1 b1.2 w2.drew (by omega) (by omega) c0 C1.out).mono ?_; rintro e w' ⟨rfl, rfl⟩) | (go_at_call 6; go_in))
    go_ret
    exact ⟨rfl, HB.out.drew⟩
end Go.Proofs.Qxb6603732a
