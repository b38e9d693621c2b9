import Derived.Test.Qxb6603732aModrm
namespace Go.Proofs.Qxb6603732a
open Go.RowKit

theorem mtable_none (a : Option Addr) (cap : Nat) (w : World) :
    Calls Try.prog 8 #[.slice a 0 cap] w fun e w' => e = .returned (.int .i64 0) ∧ w' = w := by
  go_enter Try.func8, Try.ntmps8
  go_wp2
  go_ret
  exact ⟨rfl, rfl⟩

set_option maxHeartbeats 1000000 in
theorem mtable_any (b off len cap : Nat) (x y : Int) (hx0 : 0 ≤ x) (hx1 : x ≤ 255) (hy0 : 0 ≤ y) (hy1 : y ≤ 255) (w : World) (hlen : 0 < len) (hlen2 : len ≤ 1048576)
    (c0 : w.cell? ⟨b, off, none⟩ = some (.int .u8 x)) (c1 : 1 < len → w.cell? ⟨b, off + 1, none⟩ = some (.int .u8 y)) :
    Calls Try.prog 8 #[.slice (some ⟨b, off, none⟩) len cap] w fun e w' => e = .returned (.int .i64 (mlen len x y)) ∧ w' = w := by
  have hl0 : (0 : Int) < (len : Int) := by omega
  rcases mlen_ways len x y hx0 hx1 with ⟨h, hr, hl⟩ | ⟨h, hr, hl, hy⟩ | ⟨h, hr, hl, hy⟩ | ⟨h, hr, hl⟩ | ⟨h, hr, hl⟩ | h | ⟨h, hr⟩ | ⟨h, hr, hr2⟩ | ⟨h, hr⟩ | ⟨h, hr⟩
  all_goals
    have hl1 : 2 ≤ len → w.cell? ⟨b, off + 1, none⟩ = some (.int .u8 y) := fun h => c1 (by omega)
    clear c1
    try have c1' := hl1 hl
    try have hl2 : (1 : Int) < (len : Int) := by omega
    clear hl1
    go_enter Try.func8, Try.ntmps8
    go_wp2
    all_goals
      go_ret
      exact ⟨ret_int (by unfold mlen; repeat (first | rw [if_pos (by omega)] | rw [if_neg (by omega)]); try rfl), rfl⟩
end Go.Proofs.Qxb6603732a
