import Derived.Test.Qxb6616476aWide3
import Derived.Laws.StructEq
namespace Go.Proofs.Qxb6616476a
open Go.RowKit Go.Lib

set_option maxHeartbeats 2000000 in
/-- (uint128).cmp -/
theorem cmp128 (a1 a0 b1 b0 : Int) (h0 : Word a0) (g0 : Word b0) (w : World) :
    Calls Try.prog 44 #[.agg #[.int .u64 a1, .int .u64 a0], .agg #[.int .u64 b1, .int .u64 b0]] w fun e w' => e = .returned (.int .i64 (cmpI (V2 a1 a0) (V2 b1 b0))) ∧ Below w.heap.size w w' := by
  have HW : Hid (Word a0 ∧ Word b0) := ⟨h0, g0⟩
  clear h0 g0
  rcases Int.lt_trichotomy a1 b1 with h | h | h
  · have h' : ¬ a1 = b1 := by omega
    have hb : (a1 == b1) = false := by simpa using h'
    have HE : Hid (cmpI (V2 a1 a0) (V2 b1 b0) = -1) := by
      show cmpI (V2 a1 a0) (V2 b1 b0) = -1
      unfold V2
      rw [cmpI_top HW.out.1 HW.out.2 h']
      simp [cmpI, h, h']
    go_enter Try.func44, Try.ntmps44
    go_wp2_with fail
    go_ret
    exact ⟨by rw [HE.out]; rfl, by go_grown⟩
  · subst h
    rcases Int.lt_trichotomy a0 b0 with k | k | k
    · have k' : ¬ a0 = b0 := by omega
      have kb : (a0 == b0) = false := by simpa using k'
      have HE : Hid (cmpI (V2 a1 a0) (V2 a1 b0) = -1) := by
        show cmpI (V2 a1 a0) (V2 a1 b0) = -1
        unfold V2
        rw [cmpI_low]
        simp [cmpI, k, k']
      go_enter Try.func44, Try.ntmps44
      go_wp2_with fail
      go_ret
      exact ⟨by rw [HE.out]; rfl, by go_grown⟩
    · subst k
      have HE : Hid (cmpI (V2 a1 a0) (V2 a1 a0) = 0) := by
        show cmpI (V2 a1 a0) (V2 a1 a0) = 0
        simp [cmpI]
      go_enter Try.func44, Try.ntmps44
      go_wp2_with fail
      go_ret
      exact ⟨by rw [HE.out]; rfl, by go_grown⟩
    · have k' : ¬ a0 = b0 := by omega
      have k'' : ¬ a0 < b0 := by omega
      have kb : (a0 == b0) = false := by simpa using k'
      have HE : Hid (cmpI (V2 a1 a0) (V2 a1 b0) = 1) := by
        show cmpI (V2 a1 a0) (V2 a1 b0) = 1
        unfold V2
        rw [cmpI_low]
        simp [cmpI, k', k'']
      go_enter Try.func44, Try.ntmps44
      go_wp2_with fail
      go_ret
      exact ⟨by rw [HE.out]; rfl, by go_grown⟩
  · have h' : ¬ a1 = b1 := by omega
    have h'' : ¬ a1 < b1 := by omega
    have hb : (a1 == b1) = false := by simpa using h'
    have HE : Hid (cmpI (V2 a1 a0) (V2 b1 b0) = 1) := by
      show cmpI (V2 a1 a0) (V2 b1 b0) = 1
      unfold V2
      rw [cmpI_top HW.out.1 HW.out.2 h']
      simp [cmpI, h', h'']
    go_enter Try.func44, Try.ntmps44
    go_wp2_with fail
    go_ret
    exact ⟨by rw [HE.out]; rfl, by go_grown⟩

set_option maxHeartbeats 4000000 in
/-- (uint192).cmp -/
theorem cmp192 (a2 a1 a0 b2 b1 b0 : Int) (h1 : Word a1) (g1 : Word b1) (h0 : Word a0) (g0 : Word b0) (w : World) :
    Calls Try.prog 48 #[.agg #[.int .u64 a2, .int .u64 a1, .int .u64 a0], .agg #[.int .u64 b2, .int .u64 b1, .int .u64 b0]] w fun e w' => e = .returned (.int .i64 (cmpI (V3 a2 a1 a0) (V3 b2 b1 b0))) ∧ Below w.heap.size w w' := by
  have HW : Hid ((Word a1 ∧ Word b1) ∧ Word a0 ∧ Word b0) := ⟨⟨h1, g1⟩, h0, g0⟩
  clear h0 g0 h1 g1
  rcases Int.lt_trichotomy a2 b2 with h0 | h0 | h0
  · have n0 : ¬ a2 = b2 := by omega
    have m0 : (a2 == b2) = false := by simpa using n0
    have HE : Hid (cmpI (V3 a2 a1 a0) (V3 b2 b1 b0) = -1) := by
      show cmpI (V3 a2 a1 a0) (V3 b2 b1 b0) = -1
      obtain ⟨⟨k1, l1⟩, k0, l0⟩ := HW.out
      obtain ⟨k2, k3⟩ := k1
      obtain ⟨l2, l3⟩ := l1
      unfold V3
      rw [cmpI_top k0 l0 (by omega), cmpI_top ⟨k2, k3⟩ ⟨l2, l3⟩ (by omega)]
      simp [cmpI, h0, n0]
    go_enter Try.func48, Try.ntmps48
    go_wp2_with fail
    go_ret
    exact ⟨by rw [HE.out]; rfl, by go_grown⟩
  · subst h0
    rcases Int.lt_trichotomy a1 b1 with h1 | h1 | h1
    · have n1 : ¬ a1 = b1 := by omega
      have m1 : (a1 == b1) = false := by simpa using n1
      have HE : Hid (cmpI (V3 a2 a1 a0) (V3 a2 b1 b0) = -1) := by
        show cmpI (V3 a2 a1 a0) (V3 a2 b1 b0) = -1
        obtain ⟨⟨k1, l1⟩, k0, l0⟩ := HW.out
        clear k1 l1
        unfold V3
        rw [cmpI_top k0 l0 (by omega), cmpI_low]
        simp [cmpI, h1, n1]
      go_enter Try.func48, Try.ntmps48
      go_wp2_with fail
      go_ret
      exact ⟨by rw [HE.out]; rfl, by go_grown⟩
    · subst h1
      rcases Int.lt_trichotomy a0 b0 with h2 | h2 | h2
      · have n2 : ¬ a0 = b0 := by omega
        have m2 : (a0 == b0) = false := by simpa using n2
        have HE : Hid (cmpI (V3 a2 a1 a0) (V3 a2 a1 b0) = -1) := by
          show cmpI (V3 a2 a1 a0) (V3 a2 a1 b0) = -1
          unfold V3
          rw [cmpI_low]
          simp [cmpI, h2, n2]
        go_enter Try.func48, Try.ntmps48
        go_wp2_with fail
        go_ret
        exact ⟨by rw [HE.out]; rfl, by go_grown⟩
      · subst h2
        have HE : Hid (cmpI (V3 a2 a1 a0) (V3 a2 a1 a0) = 0) := by
          show cmpI (V3 a2 a1 a0) (V3 a2 a1 a0) = 0
          simp [cmpI]
        go_enter Try.func48, Try.ntmps48
        go_wp2_with fail
        go_ret
        exact ⟨by rw [HE.out]; rfl, by go_grown⟩
      · have n2 : ¬ a0 = b0 := by omega
        have p2 : ¬ a0 < b0 := by omega
        have m2 : (a0 == b0) = false := by simpa using n2
        have HE : Hid (cmpI (V3 a2 a1 a0) (V3 a2 a1 b0) = 1) := by
          show cmpI (V3 a2 a1 a0) (V3 a2 a1 b0) = 1
          unfold V3
          rw [cmpI_low]
          simp [cmpI, p2, n2]
        go_enter Try.func48, Try.ntmps48
        go_wp2_with fail
        go_ret
        exact ⟨by rw [HE.out]; rfl, by go_grown⟩
    · have n1 : ¬ a1 = b1 := by omega
      have p1 : ¬ a1 < b1 := by omega
      have m1 : (a1 == b1) = false := by simpa using n1
      have HE : Hid (cmpI (V3 a2 a1 a0) (V3 a2 b1 b0) = 1) := by
        show cmpI (V3 a2 a1 a0) (V3 a2 b1 b0) = 1
        obtain ⟨⟨k1, l1⟩, k0, l0⟩ := HW.out
        clear k1 l1
        unfold V3
        rw [cmpI_top k0 l0 (by omega), cmpI_low]
        simp [cmpI, p1, n1]
      go_enter Try.func48, Try.ntmps48
      go_wp2_with fail
      go_ret
      exact ⟨by rw [HE.out]; rfl, by go_grown⟩
  · have n0 : ¬ a2 = b2 := by omega
    have p0 : ¬ a2 < b2 := by omega
    have m0 : (a2 == b2) = false := by simpa using n0
    have HE : Hid (cmpI (V3 a2 a1 a0) (V3 b2 b1 b0) = 1) := by
      show cmpI (V3 a2 a1 a0) (V3 b2 b1 b0) = 1
      obtain ⟨⟨k1, l1⟩, k0, l0⟩ := HW.out
      obtain ⟨k2, k3⟩ := k1
      obtain ⟨l2, l3⟩ := l1
      unfold V3
      rw [cmpI_top k0 l0 (by omega), cmpI_top ⟨k2, k3⟩ ⟨l2, l3⟩ (by omega)]
      simp [cmpI, p0, n0]
    go_enter Try.func48, Try.ntmps48
    go_wp2_with fail
    go_ret
    exact ⟨by rw [HE.out]; rfl, by go_grown⟩

set_option maxHeartbeats 2000000 in
/-- (mixed256).fraction -/
theorem fraction_any (a3 a2 a1 a0 nu de : Int) (w : World) :
    Calls Try.prog 36 #[.agg #[.int .u64 a3, .int .u64 a2, .int .u64 a1, .int .u64 a0, .int .u64 nu, .int .u64 de]] w fun e w' => e = .returned (.agg #[.int .u64 0, .int .u64 0, .int .u64 nu, .int .u64 de]) ∧ Below w.heap.size w w' := by
  go_enter Try.func36, Try.ntmps36
  go_wp2_with fail
  go_returns
  exact ⟨rfl, by go_grown⟩

set_option maxHeartbeats 2000000 in
/-- (FeePrices).byDimension -/
theorem byDim_any (r0 r1 r2 r3 r4 r5 r6 r7 : Int) (w : World) :
    Calls Try.prog 29 #[.agg #[.int .u64 r0, .int .u64 r1, .int .u64 r2, .int .u64 r3, .int .u64 r4, .int .u64 r5, .int .u64 r6, .int .u64 r7]] w fun e w' => e = .returned (.agg #[.int .u64 r0, .int .u64 r1, .int .u64 r2, .int .u64 r3, .int .u64 r4, .int .u64 r5, .int .u64 r6, .int .u64 r7, .int .u64 r6, .int .u64 r7]) ∧ Below w.heap.size w w' := by
  go_enter Try.func29, Try.ntmps29
  go_wp2_with fail
  go_returns
  exact ⟨rfl, by go_grown⟩
end Go.Proofs.Qxb6616476a
