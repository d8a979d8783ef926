import Derived.Test.Qxb6616476aFloat
namespace Go.Proofs.Qxb6616476a
open Go.RowKit Go.Lib

theorem cf18 (args : Array Value) (w : World) : (callFunc 18 args).run Try.prog w = .ok (.enter 18 args) w := by
  simp [callFunc, go_sem, Try.func18, Try.f18]
theorem cf19 (args : Array Value) (w : World) : (callFunc 19 args).run Try.prog w = .ok (.enter 19 args) w := by
  simp [callFunc, go_sem, Try.func19, Try.f19]
theorem cf20 (args : Array Value) (w : World) : (callFunc 20 args).run Try.prog w = .ok (.enter 20 args) w := by
  simp [callFunc, go_sem, Try.func20, Try.f20]
theorem cf21 (args : Array Value) (w : World) : (callFunc 21 args).run Try.prog w = .ok (.enter 21 args) w := by
  simp [callFunc, go_sem, Try.func21, Try.f21]
theorem cf22 (args : Array Value) (w : World) : (callFunc 22 args).run Try.prog w = .ok (.enter 22 args) w := by
  simp [callFunc, go_sem, Try.func22, Try.f22]
end Go.Proofs.Qxb6616476a
