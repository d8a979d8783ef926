import Derived.Test.Qxb6616476aValidA
import Derived.Outline
namespace Go.Proofs.Qxb6616476a
open Go.RowKit

set_option maxRecDepth 100000 in
set_option maxHeartbeats 1000000 in
theorem verdict_no (l0 l1 l2 l3 c0 c1 c2 q0 q1 q2 q3 q4 q5 : Int) (w : World) :
    Calls Try.prog 11 #[.agg #[.int .u64 l0, .int .u64 l1, .int .u64 l2, .int .u64 l3], .agg #[.int .u64 c0, .int .u64 c1, .int .u64 c2], .agg #[.int .u64 q0, .int .u64 q1, .int .u64 q2, .int .u64 q3, .int .u64 q4, .int .u64 q5], .bool true] w fun e w' =>
      (∃ t v, e = .returned (.agg #[.int .u64 l0, .int .u64 l1, .int .u64 l2, .int .u64 l3, .int .u64 c0, .int .u64 c1, .int .u64 c2, .int .u64 q0, .int .u64 q1, .int .u64 q2, .int .u64 q3, .int .u64 q4, .int .u64 q5, .iface t v])) ∧ Below w.heap.size w w' := by
  go_enter Try.func11, Try.ntmps11
  go_wp2_with fail
  refine (refused_any l0 l1 l2 l3 c0 c1 c2 q0 q1 q2 q3 q4 q5 _).mono ?_
  rintro e w1 ⟨⟨t, v, rfl⟩, o1, o2, o3, o4, rfl⟩
  go_wp2
  simp [bodyPost, results, Try.results11, go_sem]
  repeat (first | exact Below.refl _ _ | refine bAlloc ?_ _)

end Go.Proofs.Qxb6616476a
