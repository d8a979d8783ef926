import Derived.Test.Qxb6616491aDoorIsA
namespace Go.Proofs.Qxb6616491aDoor
open Go.RowKit Go.Extern.Stop Go.Stop Go.Extern

/-- errors.Is of what is not nil -/
theorem Is_of (t : TypeId) (v : Value) (b : Addr) (r : Bool) (w : World) (H : Hid (Calls Tryd.prog 17 #[.iface t v, .iface 33 (.pointer (some b)), .bool true] w fun e w' => e = .returned (.bool r) ∧ w' = w)) :
    Calls Tryd.prog 15 #[.iface t v, .iface 33 (.pointer (some b))] w fun e w' => e = .returned (.bool r) ∧ w' = w := by
  have h16 := @run_callFunc_extern Tryd.prog 16 _ Extern.ReflectliteType.typeOf Tryd.func16 (by kernel_rfl) (by kernel_rfl) (by kernel_rfl) (by kernel_rfl)
  have tT := Tryd.isTypeOf
  have cT := Tryd.isComparable
  have mR := Tryd.isMethodComparable
  go_enter Tryd.func15, Tryd.ntmps15
  go_wp2_with fail
  refine H.out.mono ?_
  rintro e w' ⟨rfl, rfl⟩
  go_wp2_with fail
  go_ret
  exact ⟨rfl, rfl⟩

/-- errors.Is(nil, x) -/
theorem Is_nil (b : Addr) (w : World) :
    Calls Tryd.prog 15 #[.nilIface, .iface 33 (.pointer (some b))] w fun e w' => e = .returned (.bool false) ∧ w' = w := by
  have hn := run_eql_iface_nil_left (P := Tryd.prog) w 33 (.pointer (some b)) Tryd.underlying26
  go_enter Tryd.func15, Tryd.ntmps15
  go_wp2_with fail
  go_ret
  exact ⟨rfl, rfl⟩

theorem Tryd.methodUnwrap (v : Value) (w : World) : (Go.method 194 37 v "Unwrap").run Tryd.prog w = .ok (35, v) w := by kernel_rfl
theorem unwrap_any (jb : Nat) (v : Option Addr) (n c : Nat) (w : World) (hj : w.cell? ⟨jb, 0, none⟩ = some (.slice v n c)) :
    Calls Tryd.prog 35 #[.pointer (some ⟨jb, 0, none⟩)] w fun e w' => e = .returned (.slice v n c) ∧ w' = w := by
  go_enter Tryd.func35, Tryd.ntmps35
  go_wp2_with fail
  go_ret
  exact ⟨rfl, rfl⟩

set_option maxHeartbeats 1000000 in
/-- errors.is at a joined error of two: one of them is -/
theorem is_join (jb sb cap : Nat) (t0 t1 : TypeId) (v0 v1 : Value) (b : Addr) (r0 r1 : Bool) (w : World) (hj : w.cell? ⟨jb, 0, none⟩ = some (.slice (some ⟨sb, 0, none⟩) 2 cap)) (h0 : w.cell? ⟨sb, 0, none⟩ = some (.iface t0 v0)) (h1 : w.cell? ⟨sb, 1, none⟩ = some (.iface t1 v1))
    (H0 : Hid (Calls Tryd.prog 17 #[.iface t0 v0, .iface 33 (.pointer (some b)), .bool true] w fun e w' => e = .returned (.bool r0) ∧ w' = w)) (H1 : Hid (Calls Tryd.prog 17 #[.iface t1 v1, .iface 33 (.pointer (some b)), .bool true] w fun e w' => e = .returned (.bool r1) ∧ w' = w)) :
    Calls Tryd.prog 17 #[.iface 37 (.pointer (some ⟨jb, 0, none⟩)), .iface 33 (.pointer (some b)), .bool true] w fun e w' => e = .returned (.bool (r0 || r1)) ∧ w' = w := by
  have nE := Tryd.noIsJ
  have uE := Tryd.noUnwrapJ
  have vE := Tryd.hasUnwrapsJ
  have mU := Tryd.methodUnwrap
  have hty := run_eql_iface_types (P := Tryd.prog) 37 33 (.pointer (some ⟨jb, 0, none⟩)) (.pointer (some b)) Tryd.underlying26 (by decide) w
  go_enter Tryd.func17, Tryd.ntmps17
  go_wp2_with fail
  refine wp_loop_rounds 1 ?_
  rw [rounds_succ]
  go_wp2_with fail
  refine (unwrap_any jb _ _ _ _ hj).mono ?_
  rintro e w' ⟨rfl, rfl⟩
  go_wp2_with fail
  refine wp_loop_rounds 3 ?_
  rw [rounds_succ]
  go_wp2_with fail
  refine H0.out.mono ?_
  rintro e w1 ⟨rfl, rfl⟩
  cases r0 with
  | true =>
    go_wp2_with fail
    go_ret
    exact ⟨rfl, rfl⟩
  | false =>
    go_wp2_with fail
    rw [rounds_succ]
    go_wp2_with fail
    refine H1.out.mono ?_
    rintro e w2 ⟨rfl, rfl⟩
    cases r1 with
    | true =>
      go_wp2_with fail
      go_ret
      exact ⟨rfl, rfl⟩
    | false =>
      go_wp2_with fail
      rw [rounds_succ]
      go_wp2_with fail
      go_ret
      exact ⟨rfl, rfl⟩
end Go.Proofs.Qxb6616491aDoor
