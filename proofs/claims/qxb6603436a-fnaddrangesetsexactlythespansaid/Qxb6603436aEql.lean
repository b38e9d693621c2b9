import Derived.Test.Qxb6603436aRows
import Derived.WalkKit
namespace Go.Proofs.Qxb6603436a
open Go.RowKit
/-- An array of four words is equal to itself. -/
theorem eql4 (a b c d : Int) (w : World) : (Op.equalIn 10000 29 (.agg #[.int .u64 a, .int .u64 b, .int .u64 c, .int .u64 d]) (.agg #[.int .u64 a, .int .u64 b, .int .u64 c, .int .u64 d])).run Try.prog w = .ok true w := by
  have h25 : ∀ (x : Int) (w : World), (Op.equalIn 9999 25 (.int .u64 x) (.int .u64 x)).run Try.prog w = .ok true w := fun x w => by
    have := run_equalIn_int (P := Try.prog) w 9998 25 .u64 .u64 x x Try.underlying25
    simpa using this
  have p0 : ∀ w : World, (part 25 #[.int .u64 a, .int .u64 b, .int .u64 c, .int .u64 d] 0).run Try.prog w = .ok (.int .u64 a) w := fun _ => by kernel_rfl
  have p1 : ∀ w : World, (part 25 #[.int .u64 a, .int .u64 b, .int .u64 c, .int .u64 d] 1).run Try.prog w = .ok (.int .u64 b) w := fun _ => by kernel_rfl
  have p2 : ∀ w : World, (part 25 #[.int .u64 a, .int .u64 b, .int .u64 c, .int .u64 d] 2).run Try.prog w = .ok (.int .u64 c) w := fun _ => by kernel_rfl
  have p3 : ∀ w : World, (part 25 #[.int .u64 a, .int .u64 b, .int .u64 c, .int .u64 d] 3).run Try.prog w = .ok (.int .u64 d) w := fun _ => by kernel_rfl
  show (Op.equalIn (9999 + 1) 29 _ _).run _ _ = _
  rw [Op.equalIn]
  simp [run_underlying Try.underlying29]
  rw [show List.range' 0 4 = [0, 1, 2, 3] from rfl]
  simp [p0, p1, p2, p3, h25]
end Go.Proofs.Qxb6603436a
