import Derived.Test.Qxb6603732aVex
namespace Go.Proofs.Qxb6603732a
open Go.RowKit

theorem vexlaw_big (a : Option Addr) (len cap : Nat) (q : Int) (hm : len ≤ maxLen) (hb : 65536 < len) (w : World) :
    Calls Try.prog 5 #[.slice a len cap, .int .u8 q] w fun e w' => e = .returned (.bool true) ∧ Below w.heap.size w w' := by
  unfold maxLen at hm
  by_cases h2 : 1048576 < len
  · go_enter Try.func5, Try.ntmps5
    go_wp2
    go_ret
    exact ⟨rfl, Below.refl _ _⟩
  · go_enter Try.func5, Try.ntmps5
    go_wp2
    go_ret
    exact ⟨rfl, Below.refl _ _⟩

theorem vexlaw_short (a : Option Addr) (len cap : Nat) (q : Int) (hb : len < 2) (w : World) :
    Calls Try.prog 5 #[.slice a len cap, .int .u8 q] w fun e w' => e = .returned (.bool true) ∧ Below w.heap.size w w' := by
  go_enter Try.func5, Try.ntmps5
  go_wp2
  go_ret
  exact ⟨rfl, Below.refl _ _⟩

theorem ret_true' {a : Bool} (h : a = true) : Ending.returned (.bool a) = .returned (.bool true) := by rw [h]

set_option maxHeartbeats 1000000 in
theorem vexlaw_row (x : Addr) (len cap : Nat) (zs : List Int) (q : Int) (w : World) (h2 : 2 ≤ len) (hl : len ≤ 65536) (hlc : len ≤ zs.length) (hq0 : 0 ≤ q) (hq1 : q ≤ 255)
    (hcell : ∀ i, i < zs.length → w.cell? (x.add i) = some (.int .u8 (zs.getD i 0))) (hwz : ∀ n ∈ zs, (Lit.int .u8 n).wf = true) :
    Calls Try.prog 5 #[.slice (some x) len cap, .int .u8 q] w fun e w' => e = .returned (.bool true) ∧ Below w.heap.size w w' := by
  have hn := neq_nil (some x) len cap
  have hmk := mk_run len (by omega)
  have b0 := byte_bd hwz 0
  have b1 := byte_bd hwz 1
  obtain ⟨w2, hcp, hc2, hB2, hz2⟩ := copy_run x len cap zs w hlc hcell
  have c0 := hc2 0 (by omega)
  have c1 := hc2 1 (by omega)
  have hlt : w.heap.size < w2.heap.size := by omega
  obtain ⟨X, hX⟩ : ∃ X, X = zs.getD 0 0 := ⟨_, rfl⟩
  obtain ⟨Y, hY⟩ : ∃ Y, Y = zs.getD 1 0 := ⟨_, rfl⟩
  rw [← hX] at c0 b0
  rw [← hY] at c1 b1
  have HB : Hid (Below w.heap.size w (w2.alloc (.cells #[.int .u8 X, .int .u8 q] 5))) := hB2.alloc (by omega) _
  have bl : Below w2.heap.size w2 (w2.alloc (.cells #[.int .u8 X, .int .u8 q] 5)) := (Below.refl _ _).alloc (Nat.le_refl _) _
  have e0 : (w2.alloc (.cells #[.int .u8 X, .int .u8 q] 5)).cell? ⟨w.heap.size, 0, none⟩ = some (.int .u8 X) := cell_later bl c0
  have e1 : (w2.alloc (.cells #[.int .u8 X, .int .u8 q] 5)).cell? ⟨w.heap.size, 0 + 1, none⟩ = some (.int .u8 Y) := cell_later bl c1
  have d0 : (w2.alloc (.cells #[.int .u8 X, .int .u8 q] 5)).cell? ⟨w2.heap.size, 0, none⟩ = some (.int .u8 X) := by go_simp
  have d1 : (w2.alloc (.cells #[.int .u8 X, .int .u8 q] 5)).cell? ⟨w2.heap.size, 0 + 1, none⟩ = some (.int .u8 q) := by go_simp
  clear hX hY hcell hwz hc2 hB2 hz2 bl
  have E0 : Hid _ := e0
  have E1 : Hid _ := e1
  have D0 : Hid _ := d0
  have D1 : Hid _ := d1
  clear e0 e1 d0 d1
  by_cases k1 : X = 197
  · subst k1
    have tok1 : True := trivial
    go_enter Try.func5, Try.ntmps5
    go_wp2_with (first | (go_at_call 11; have _t := tok1; refine (zzvex_of (vex_c5 w.heap.size 0 len len _ h2 (by omega) E0.out)).mono ?_; rintro e w' ⟨rfl, rfl⟩; clear tok1) | (go_at_call 11; refine (zzvex_of (vex_c5 w2.heap.size 0 2 2 _ (by omega) (by omega) D0.out)).mono ?_; rintro e w' ⟨rfl, rfl⟩) | (go_at_call 10; go_in))
    go_ret
    exact ⟨rfl, HB.out⟩
  by_cases k2 : X = 196
  · subst k2
    obtain ⟨m1, hm1⟩ : ∃ m1, bits .and .u8 Y 31 = m1 := ⟨_, rfl⟩
    obtain ⟨m2, hm2⟩ : ∃ m2, bits .and .u8 q 31 = m2 := ⟨_, rfl⟩
    have l1 := mask_le Y 31 b1.1 b1.2 (by omega) (by omega)
    have E := mask_same Y q 31 b1.1 b1.2 hq0 hq1 (by omega) (by omega)
    rw [hm1] at l1
    rw [hm1, hm2] at E
    have HE : Hid (((m1 == m2) == (bits .and .u8 (bits .xor .u8 Y q) 31 == 0)) = true) := E
    have M1 : Hid (bits .and .u8 Y 31 = m1) := hm1
    have M2 : Hid (bits .and .u8 q 31 = m2) := hm2
    clear E hm1 hm2 k1
    have tok1 : True := trivial
    go_enter Try.func5, Try.ntmps5
    go_wp2_with (first | (go_at_call 11; have _t := tok1; refine (zzvex_of (vex_c4 w.heap.size 0 len len Y m1 _ h2 (by omega) E0.out E1.out M1.out)).mono ?_; rintro e w' ⟨rfl, rfl⟩; clear tok1) | (go_at_call 11; refine (zzvex_of (vex_c4 w2.heap.size 0 2 2 q m2 _ (by omega) (by omega) D0.out D1.out M2.out)).mono ?_; rintro e w' ⟨rfl, rfl⟩) | (go_at_call 10; go_in))
    go_ret
    exact ⟨ret_true' HE.out, HB.out⟩
  by_cases k3 : X = 98
  · subst k3
    obtain ⟨m1, hm1⟩ : ∃ m1, bits .and .u8 Y 7 = m1 := ⟨_, rfl⟩
    obtain ⟨m2, hm2⟩ : ∃ m2, bits .and .u8 q 7 = m2 := ⟨_, rfl⟩
    have l1 := mask_le Y 7 b1.1 b1.2 (by omega) (by omega)
    have E := mask_same Y q 7 b1.1 b1.2 hq0 hq1 (by omega) (by omega)
    rw [hm1] at l1
    rw [hm1, hm2] at E
    have HE : Hid (((m1 == m2) == (bits .and .u8 (bits .xor .u8 Y q) 7 == 0)) = true) := E
    have M1 : Hid (bits .and .u8 Y 7 = m1) := hm1
    have M2 : Hid (bits .and .u8 q 7 = m2) := hm2
    clear E hm1 hm2 k1 k2
    have tok1 : True := trivial
    go_enter Try.func5, Try.ntmps5
    go_wp2_with (first | (go_at_call 11; have _t := tok1; refine (zzvex_of (vex_62 w.heap.size 0 len len Y m1 _ h2 (by omega) E0.out E1.out M1.out)).mono ?_; rintro e w' ⟨rfl, rfl⟩; clear tok1) | (go_at_call 11; refine (zzvex_of (vex_62 w2.heap.size 0 2 2 q m2 _ (by omega) (by omega) D0.out D1.out M2.out)).mono ?_; rintro e w' ⟨rfl, rfl⟩) | (go_at_call 10; go_in))
    go_ret
    exact ⟨ret_true' HE.out, HB.out⟩
  · have n1 : (X == 197) = false := by rw [beq_eq_false_iff_ne]; exact k1
    have n2 : (X == 196) = false := by rw [beq_eq_false_iff_ne]; exact k2
    have n3 : (X == 98) = false := by rw [beq_eq_false_iff_ne]; exact k3
    clear k1 k2 k3
    have tok1 : True := trivial
    go_enter Try.func5, Try.ntmps5
    go_wp2_with (first | (go_at_call 11; have _t := tok1; refine (zzvex_of (vex_other w.heap.size 0 len len X _ h2 (by omega) E0.out n1 n2 n3)).mono ?_; rintro e w' ⟨rfl, rfl⟩; clear tok1) | (go_at_call 11; refine (zzvex_of (vex_other w2.heap.size 0 2 2 X _ (by omega) (by omega) D0.out n1 n2 n3)).mono ?_; rintro e w' ⟨rfl, rfl⟩) | (go_at_call 10; go_in))
    go_ret
    exact ⟨rfl, HB.out⟩
end Go.Proofs.Qxb6603732a
