import Derived.Test.Qxb6616476aWide2
namespace Go.Proofs.Qxb6616476a
open Go.RowKit Go.Lib

set_option maxHeartbeats 1000000 in
theorem isNaN_any (a : Int) (w : World) : Calls Try.prog 53 #[.int .u64 a] w fun e w' => e = .returned (.bool false) ∧ w' = w := by
  go_enter Try.func53, Try.ntmps53
  go_wp2_with fail
  go_ret
  refine ⟨?_, rfl⟩
  simp

set_option maxHeartbeats 1000000 in
theorem compare64 (a b : Int) (w : World) : Calls Try.prog 50 #[.int .u64 a, .int .u64 b] w fun e w' => e = .returned (.int .i64 (cmpI a b)) ∧ w' = w := by
  rcases Int.lt_trichotomy a b with h | h | h
  · have h2 : ¬ a = b := by omega
    have e : cmpI a b = -1 := by simp [cmpI, h, h2]
    rw [e]
    go_enter Try.func50, Try.ntmps50
    go_wp2_with fail
    refine (isNaN_any a _).mono ?_
    rintro e w' ⟨rfl, rfl⟩
    go_wp2_with fail
    refine (isNaN_any b _).mono ?_
    rintro e w' ⟨rfl, rfl⟩
    go_wp2_with fail
    go_ret
    exact ⟨rfl, rfl⟩
  · subst h
    have e : cmpI a a = 0 := by simp [cmpI]
    rw [e]
    go_enter Try.func50, Try.ntmps50
    go_wp2_with fail
    refine (isNaN_any a _).mono ?_
    rintro e w' ⟨rfl, rfl⟩
    go_wp2_with fail
    refine (isNaN_any a _).mono ?_
    rintro e w' ⟨rfl, rfl⟩
    go_wp2_with fail
    go_ret
    exact ⟨rfl, rfl⟩
  · have h2 : ¬ a = b := by omega
    have h3 : ¬ a < b := by omega
    have e : cmpI a b = 1 := by simp [cmpI, h2, h3]
    rw [e]
    go_enter Try.func50, Try.ntmps50
    go_wp2_with fail
    refine (isNaN_any a _).mono ?_
    rintro e w' ⟨rfl, rfl⟩
    go_wp2_with fail
    refine (isNaN_any b _).mono ?_
    rintro e w' ⟨rfl, rfl⟩
    go_wp2_with fail
    go_ret
    exact ⟨rfl, rfl⟩

/-- the first word that differs decides -/
theorem cmpI_top {a b x y : Int} (hx : Word x) (hy : Word y) (h : a ≠ b) : cmpI (a * 18446744073709551616 + x) (b * 18446744073709551616 + y) = cmpI a b := by
  obtain ⟨x1, x2⟩ := hx
  obtain ⟨y1, y2⟩ := hy
  have h1 : ¬ (a * 18446744073709551616 + x) = (b * 18446744073709551616 + y) := by omega
  unfold cmpI
  rw [if_neg h1, if_neg h]
  by_cases h2 : a < b
  · rw [if_pos h2, if_pos (by omega)]
  · rw [if_neg h2, if_neg (by omega)]
theorem cmpI_low {a x y : Int} : cmpI (a * 18446744073709551616 + x) (a * 18446744073709551616 + y) = cmpI x y := by
  unfold cmpI
  by_cases h : x = y
  · rw [if_pos h, if_pos (by omega)]
  · rw [if_neg h, if_neg (by omega)]
    by_cases h2 : x < y
    · rw [if_pos h2, if_pos (by omega)]
    · rw [if_neg h2, if_neg (by omega)]
theorem cmpI_ne {a b : Int} (h : a ≠ b) : cmpI a b ≠ 0 := by
  unfold cmpI
  rw [if_neg h]
  split <;> decide

set_option maxHeartbeats 2000000 in
/-- (uint256).cmp -/
theorem cmp256 (a3 a2 a1 a0 b3 b2 b1 b0 : Int) (h2 : Word a2) (h1 : Word a1) (h0 : Word a0) (g2 : Word b2) (g1 : Word b1) (g0 : Word b0) (w : World) :
    Calls Try.prog 42 #[.agg #[.int .u64 a3, .int .u64 a2, .int .u64 a1, .int .u64 a0], .agg #[.int .u64 b3, .int .u64 b2, .int .u64 b1, .int .u64 b0]] w fun e w' => e = .returned (.int .i64 (cmpI (V4 a3 a2 a1 a0) (V4 b3 b2 b1 b0))) ∧ Below w.heap.size w w' := by
  have HW : Hid ((Word a2 ∧ Word a1 ∧ Word a0) ∧ (Word b2 ∧ Word b1 ∧ Word b0)) := ⟨⟨h2, h1, h0⟩, ⟨g2, g1, g0⟩⟩
  clear h2 h1 h0 g2 g1 g0
  by_cases e3 : a3 = b3
  · subst e3
    by_cases e2 : a2 = b2
    · subst e2
      by_cases e1 : a1 = b1
      · subst e1
        have HE : Hid (cmpI (V4 a3 a2 a1 a0) (V4 a3 a2 a1 b0) = cmpI a0 b0) := by
          show cmpI (V4 a3 a2 a1 a0) (V4 a3 a2 a1 b0) = cmpI a0 b0
          unfold V4
          rw [cmpI_low]
        go_enter Try.func42, Try.ntmps42
        go_wp2_with fail
        refine (compare64 a0 b0 _).mono ?_
        rintro e w' ⟨rfl, rfl⟩
        go_wp2_with fail
        go_ret
        exact ⟨by rw [HE.out]; rfl, by go_grown⟩
      · have HE : Hid (cmpI (V4 a3 a2 a1 a0) (V4 a3 a2 b1 b0) = cmpI a1 b1) := by
          show cmpI (V4 a3 a2 a1 a0) (V4 a3 a2 b1 b0) = cmpI a1 b1
          unfold V4
          rw [cmpI_top HW.out.1.2.2 HW.out.2.2.2 (by omega), cmpI_low]
        go_enter Try.func42, Try.ntmps42
        go_wp2_with fail
        refine (compare64 a1 b1 _).mono ?_
        rintro e w' ⟨rfl, rfl⟩
        go_wp2_with fail
        go_ret
        exact ⟨by rw [HE.out]; rfl, by go_grown⟩
    · have HE : Hid (cmpI (V4 a3 a2 a1 a0) (V4 a3 b2 b1 b0) = cmpI a2 b2) := by
        show cmpI (V4 a3 a2 a1 a0) (V4 a3 b2 b1 b0) = cmpI a2 b2
        obtain ⟨⟨_, k1, k0⟩, ⟨_, l1, l0⟩⟩ := HW.out
        obtain ⟨k2, k3⟩ := k1
        obtain ⟨l2, l3⟩ := l1
        unfold V4
        rw [cmpI_top k0 l0 (by omega), cmpI_top ⟨k2, k3⟩ ⟨l2, l3⟩ (by omega), cmpI_low]
      go_enter Try.func42, Try.ntmps42
      go_wp2_with fail
      refine (compare64 a2 b2 _).mono ?_
      rintro e w' ⟨rfl, rfl⟩
      go_wp2_with fail
      go_ret
      exact ⟨by rw [HE.out]; rfl, by go_grown⟩
  · have HE : Hid (cmpI (V4 a3 a2 a1 a0) (V4 b3 b2 b1 b0) = cmpI a3 b3) := by
      show cmpI (V4 a3 a2 a1 a0) (V4 b3 b2 b1 b0) = cmpI a3 b3
      obtain ⟨⟨m, k1, k0⟩, ⟨o, l1, l0⟩⟩ := HW.out
      obtain ⟨k2, k3⟩ := k1
      obtain ⟨l2, l3⟩ := l1
      obtain ⟨m2, m3⟩ := m
      obtain ⟨o2, o3⟩ := o
      unfold V4
      rw [cmpI_top k0 l0 (by omega), cmpI_top ⟨k2, k3⟩ ⟨l2, l3⟩ (by omega), cmpI_top ⟨m2, m3⟩ ⟨o2, o3⟩ e3]
    go_enter Try.func42, Try.ntmps42
    go_wp2_with fail
    refine (compare64 a3 b3 _).mono ?_
    rintro e w' ⟨rfl, rfl⟩
    go_wp2_with fail
    go_ret
    exact ⟨by rw [HE.out]; rfl, by go_grown⟩
end Go.Proofs.Qxb6616476a
