import Derived.Test.Qxb6616476aRows
import Derived.WalkKit
import Derived.WalkSpells
import Derived.LoopN
namespace Go.Proofs.Qxb6616476a
open Go.RowKit

/-- what lies below reads as before -/
theorem bcell {W w1 : World} (hb : Below W.heap.size W w1) : (∀ b o, b < W.heap.size → w1.cell? ⟨b, o, none⟩ = W.cell? ⟨b, o, none⟩) ∧ (∀ b o, b < W.heap.size → w1.frozen? ⟨b, o, none⟩ = W.frozen? ⟨b, o, none⟩) :=
  ⟨fun b o h => hb.cell (p := ⟨b, o, none⟩) h, fun b o h => hb.frozen (p := ⟨b, o, none⟩) h⟩
/-- one new block more -/
theorem bAlloc {w a : World} (h : Below w.heap.size w a) (o : Obj) : Below w.heap.size w (a.alloc o) := h.alloc h.size o
theorem bTrans {w a b : World} (h : Below w.heap.size w a) (k : Below a.heap.size a b) : Below w.heap.size w b := h.trans (k.mono h.size)

set_option maxRecDepth 100000 in
theorem amounts_any (l0 l1 l2 l3 c0 c1 c2 q0 q1 q2 q3 q4 q5 : Int) (r : Value) (w : World) :
    Calls Try.prog 25 #[.agg #[.int .u64 l0, .int .u64 l1, .int .u64 l2, .int .u64 l3, .int .u64 c0, .int .u64 c1, .int .u64 c2, .int .u64 q0, .int .u64 q1, .int .u64 q2, .int .u64 q3, .int .u64 q4, .int .u64 q5, r]] w fun e w' =>
      (∃ s0 s1 s2, e = .returned (.agg #[.string s0, .int .u64 c0, .int .u64 q3, .string s1, .int .u64 c1, .int .u64 q4, .string s2, .int .u64 c2, .int .u64 q5])) ∧ Below w.heap.size w w' := by
  go_enter Try.func25, Try.ntmps25
  go_wp2
  simp [bodyPost, results, Try.results25, go_sem]
  exact bAlloc (bAlloc (Below.refl _ _) _) _

set_option maxRecDepth 100000 in
theorem refused_any (l0 l1 l2 l3 c0 c1 c2 q0 q1 q2 q3 q4 q5 : Int) (w : World) :
    Calls Try.prog 24 #[.agg #[.int .u64 l0, .int .u64 l1, .int .u64 l2, .int .u64 l3, .int .u64 c0, .int .u64 c1, .int .u64 c2], .agg #[.int .u64 q0, .int .u64 q1, .int .u64 q2, .int .u64 q3, .int .u64 q4, .int .u64 q5]] w fun e w' =>
      (∃ t v, e = .returned (.agg #[.int .u64 l0, .int .u64 l1, .int .u64 l2, .int .u64 l3, .int .u64 c0, .int .u64 c1, .int .u64 c2, .int .u64 q0, .int .u64 q1, .int .u64 q2, .int .u64 q3, .int .u64 q4, .int .u64 q5, .iface t v])) ∧ ∃ o1 o2 o3 o4, w' = (((w.alloc o1).alloc o2).alloc o3).alloc o4 := by
  go_enter Try.func24, Try.ntmps24
  go_wp2
  simp [bodyPost, results, Try.results24, go_sem]
  exact ⟨_, _, _, _, rfl⟩

set_option maxRecDepth 100000 in
theorem valid_no (l0 l1 l2 l3 c0 c1 c2 q0 q1 q2 q3 q4 q5 : Int) (t : TypeId) (v : Value) (w : World) :
    Calls Try.prog 12 #[.agg #[.int .u64 l0, .int .u64 l1, .int .u64 l2, .int .u64 l3, .int .u64 c0, .int .u64 c1, .int .u64 c2, .int .u64 q0, .int .u64 q1, .int .u64 q2, .int .u64 q3, .int .u64 q4, .int .u64 q5, .iface t v]] w fun e w' =>
      e = .returned (.bool false) ∧ Below w.heap.size w w' := by
  go_enter Try.func12, Try.ntmps12
  go_wp2
  go_ret
  exact ⟨rfl, bAlloc (Below.refl _ _) _⟩

def okB (c0 c1 c2 q3 q4 q5 : Int) : Bool := c0 == q3 && c1 == q4 && c2 == q5

set_option maxRecDepth 100000 in
set_option maxHeartbeats 1000000 in
theorem valid_yes (l0 l1 l2 l3 c0 c1 c2 q0 q1 q2 q3 q4 q5 : Int) (w : World) :
    Calls Try.prog 12 #[.agg #[.int .u64 l0, .int .u64 l1, .int .u64 l2, .int .u64 l3, .int .u64 c0, .int .u64 c1, .int .u64 c2, .int .u64 q0, .int .u64 q1, .int .u64 q2, .int .u64 q3, .int .u64 q4, .int .u64 q5, .nilIface]] w fun e w' =>
      e = .returned (.bool (okB c0 c1 c2 q3 q4 q5)) ∧ Below w.heap.size w w' := by
  go_enter Try.func12, Try.ntmps12
  go_wp2_with fail
  refine (amounts_any l0 l1 l2 l3 c0 c1 c2 q0 q1 q2 q3 q4 q5 _ _).mono ?_
  rintro e w1 ⟨⟨s0, s1, s2, rfl⟩, hb⟩
  have i0 : ∀ w : World, (Instr.index 83 (.agg #[.string s0, .int .u64 c0, .int .u64 q3, .string s1, .int .u64 c1, .int .u64 q4, .string s2, .int .u64 c2, .int .u64 q5]) (.int .i64 0)).run Try.prog w = .ok (.agg #[.string s0, .int .u64 c0, .int .u64 q3]) w := fun _ => by kernel_rfl
  have i1 : ∀ w : World, (Instr.index 83 (.agg #[.string s0, .int .u64 c0, .int .u64 q3, .string s1, .int .u64 c1, .int .u64 q4, .string s2, .int .u64 c2, .int .u64 q5]) (.int .i64 1)).run Try.prog w = .ok (.agg #[.string s1, .int .u64 c1, .int .u64 q4]) w := fun _ => by kernel_rfl
  have i2 : ∀ w : World, (Instr.index 83 (.agg #[.string s0, .int .u64 c0, .int .u64 q3, .string s1, .int .u64 c1, .int .u64 q4, .string s2, .int .u64 c2, .int .u64 q5]) (.int .i64 2)).run Try.prog w = .ok (.agg #[.string s2, .int .u64 c2, .int .u64 q5]) w := fun _ => by kernel_rfl
  go_wp2
  refine wp_loop_rounds 4 ?_
  repeat any_goals (rw [rounds_succ]; go_wp2)
  all_goals
    go_ret
    refine ⟨?_, ?_⟩
    · refine congrArg (fun b => Ending.returned (.bool b)) ?_
      simp_all [okB]
    · have hb0 := bTrans (bAlloc (Below.refl w.heap.size w) _) hb
      repeat (first | exact hb0 | refine bAlloc ?_ _)

set_option maxRecDepth 100000 in
set_option maxHeartbeats 1000000 in
theorem verdict_yes (l0 l1 l2 l3 c0 c1 c2 q0 q1 q2 q3 q4 q5 : Int) (w : World) :
    Calls Try.prog 11 #[.agg #[.int .u64 l0, .int .u64 l1, .int .u64 l2, .int .u64 l3], .agg #[.int .u64 c0, .int .u64 c1, .int .u64 c2], .agg #[.int .u64 q0, .int .u64 q1, .int .u64 q2, .int .u64 q3, .int .u64 q4, .int .u64 q5], .bool false] w fun e w' =>
      (e = .returned (.agg #[.int .u64 l0, .int .u64 l1, .int .u64 l2, .int .u64 l3, .int .u64 c0, .int .u64 c1, .int .u64 c2, .int .u64 q0, .int .u64 q1, .int .u64 q2, .int .u64 q3, .int .u64 q4, .int .u64 q5, .nilIface])) ∧ Below w.heap.size w w' := by
  go_enter Try.func11, Try.ntmps11
  go_wp2
  simp [bodyPost, results, Try.results11, go_sem]
  repeat (first | exact Below.refl _ _ | refine bAlloc ?_ _)

end Go.Proofs.Qxb6616476a
