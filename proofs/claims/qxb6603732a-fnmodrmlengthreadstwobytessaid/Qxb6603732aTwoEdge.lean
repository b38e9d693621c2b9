import Derived.Test.Qxb6603732aShared
namespace Go.Proofs.Qxb6603732a
open Go.RowKit

/-- One of the two is too long: true at once. -/
theorem two_big (a : Option Addr) (len cap : Nat) (a1 : Option Addr) (m c : Nat) (hl : len ≤ maxLen) (hm : m ≤ maxLen) (h : 65536 < len ∨ 65536 < m) (w : World) :
    Calls Try.prog 4 #[.slice a len cap, .slice a1 m c] w fun e w' => e = .returned (.bool true) ∧ Below w.heap.size w w' := by
  unfold maxLen at hl hm
  by_cases g1 : 1048576 < len
  · go_enter Try.func4, Try.ntmps4
    go_wp2
    go_ret
    exact ⟨rfl, Below.refl _ _⟩
  · by_cases g2 : 1048576 < m
    · go_enter Try.func4, Try.ntmps4
      go_wp2
      go_ret
      exact ⟨rfl, Below.refl _ _⟩
    · by_cases g3 : 1048576 < len + m
      · go_enter Try.func4, Try.ntmps4
        go_wp2
        go_ret
        exact ⟨rfl, Below.refl _ _⟩
      · by_cases g4 : 65536 < len
        · go_enter Try.func4, Try.ntmps4
          go_wp2
          go_ret
          exact ⟨rfl, Below.refl _ _⟩
        · have g5 : 65536 < m := by omega
          clear h
          go_enter Try.func4, Try.ntmps4
          go_wp2
          go_ret
          exact ⟨rfl, Below.refl _ _⟩

theorem two_nil (a1 : Option Addr) (m c : Nat) (hm : m ≤ 65536) (w : World) :
    Calls Try.prog 4 #[.slice none 0 0, .slice a1 m c] w fun e w' => e = .returned (.bool true) ∧ Below w.heap.size w w' := by
  have hn := neq_nil none 0 0
  go_enter Try.func4, Try.ntmps4
  go_wp2_with (first | (go_at_call 7; refine (zzmodrm_none _ _ _).mono ?_; rintro e w' ⟨rfl, rfl⟩) | (go_at_call 9; go_in))
  go_ret
  exact ⟨rfl, Below.refl _ _⟩

theorem zzmodrm_empty' (a : Option Addr) (len cap : Nat) (w : World) (h : len ≤ 0) :
    Calls Try.prog 7 #[.slice a len cap] w fun e w' => e = .returned (.int .i64 0) ∧ w' = w := by
  obtain rfl : len = 0 := by omega
  exact zzmodrm_none a cap w

/-- No byte, but not nil. -/
theorem two_empty (x : Addr) (len cap : Nat) (zs : List Int) (a1 : Option Addr) (m c : Nat) (hm : m ≤ 65536) (h1 : len ≤ 0) (w : World) (hlc : len ≤ zs.length)
    (hcell : ∀ i, i < zs.length → w.cell? (x.add i) = some (.int .u8 (zs.getD i 0))) :
    Calls Try.prog 4 #[.slice (some x) len cap, .slice a1 m c] w fun e w' => e = .returned (.bool true) ∧ Below w.heap.size w w' := by
  have hn := neq_nil (some x) len cap
  have hmk := mk_run len (by omega)
  obtain ⟨w2, hcp, hc2, hB2, hz2⟩ := copy_run x len cap zs w hlc hcell
  have HB : Hid (Below w.heap.size w w2) := hB2
  clear hcell hc2 hB2 hz2
  go_enter Try.func4, Try.ntmps4
  go_wp2_with (first | (go_at_call 7; refine (zzmodrm_empty' _ len _ _ h1).mono ?_; rintro e w' ⟨rfl, rfl⟩) | (go_at_call 9; go_in))
  go_ret
  exact ⟨rfl, HB.out⟩
end Go.Proofs.Qxb6603732a
