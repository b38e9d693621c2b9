import Derived.Test.Qxb6603436aNumber
namespace Go.Proofs.Qxb6603436a
open Go.RowKit
open Plain
theorem zznumber_any (s : ByteArray) (w : World) (hs : s.size ≤ maxLen) :
    Calls Try.prog 10 #[.string s] w fun e w' => e = .returned (.tuple #[.int .i64 (numN s.data.toList), .bool (numOk s.data.toList)]) ∧ w' = w := by
  go_enter Try.func10, Try.ntmps10
  go_wp2_with (go_at_call 16; refine (number_any s _ hs).mono ?_; rintro e w' ⟨rfl, rfl⟩)
  go_ret2
  exact ⟨rfl, rfl⟩
end Go.Proofs.Qxb6603436a
