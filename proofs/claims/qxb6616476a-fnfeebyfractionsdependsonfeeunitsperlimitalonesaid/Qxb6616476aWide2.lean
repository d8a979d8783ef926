import Derived.Test.Qxb6616476aWide
namespace Go.Proofs.Qxb6616476a
open Go.RowKit Go.Lib

def V2 (a b : Int) : Int := a * 18446744073709551616 + b
def V3 (a b c : Int) : Int := (a * 18446744073709551616 + b) * 18446744073709551616 + c
def cmpI (x y : Int) : Int := if x = y then 0 else if x < y then -1 else 1
/-- what (uint256).add gives -/
def IsAdd (s : Int) (e : Ending) : Prop := ∃ k r3 r2 r1 r0 ok, e = .returned (.tuple #[.agg #[.int .u64 r3, .int .u64 r2, .int .u64 r1, .int .u64 r0], .bool ok]) ∧ (Word r3 ∧ Word r2 ∧ Word r1 ∧ Word r0) ∧ s = V5 k r3 r2 r1 r0 ∧ 0 ≤ k ∧ (ok = true ↔ k = 0)

set_option maxHeartbeats 2000000 in
/-- (uint256).add -/
theorem add256 (a3 a2 a1 a0 b3 b2 b1 b0 : Int) (h3 : Word a3) (h2 : Word a2) (h1 : Word a1) (h0 : Word a0) (g3 : Word b3) (g2 : Word b2) (g1 : Word b1) (g0 : Word b0) (w : World) :
    Calls Try.prog 34 #[.agg #[.int .u64 a3, .int .u64 a2, .int .u64 a1, .int .u64 a0], .agg #[.int .u64 b3, .int .u64 b2, .int .u64 b1, .int .u64 b0]] w fun e w' => IsAdd (V4 a3 a2 a1 a0 + V4 b3 b2 b1 b0) e ∧ Below w.heap.size w w' := by
  obtain ⟨s0, c0, n0, k0, f0⟩ := add_ex h0 g0 (.inl rfl : (0 : Int) = 0 ∨ (0 : Int) = 1)
  obtain ⟨s1, c1, n1, k1, f1⟩ := add_ex h1 g1 k0
  obtain ⟨s2, c2, n2, k2, f2⟩ := add_ex h2 g2 k1
  obtain ⟨s3, c3, n3, k3, f3⟩ := add_ex h3 g3 k2
  have A0 := addW h0 g0 (.inl rfl) n0 f0
  have A1 := addW h1 g1 k0 n1 f1
  have A2 := addW h2 g2 k1 n2 f2
  have A3 := addW h3 g3 k2 n3 f3
  have hfin : IsAdd (V4 a3 a2 a1 a0 + V4 b3 b2 b1 b0) (.returned (.tuple #[.agg #[.int .u64 s3, .int .u64 s2, .int .u64 s1, .int .u64 s0], .bool (c3 == 0)])) := by
    refine ⟨c3, s3, s2, s1, s0, _, rfl, ⟨n3, n2, n1, n0⟩, ?_, by omega, by simp⟩
    unfold V4 V5
    omega
  have HF : Hid (IsAdd (V4 a3 a2 a1 a0 + V4 b3 b2 b1 b0) (.returned (.tuple #[.agg #[.int .u64 s3, .int .u64 s2, .int .u64 s1, .int .u64 s0], .bool (c3 == 0)]))) := hfin
  clear f0 f1 f2 f3 n0 n1 n2 n3 h0 h1 h2 h3 g0 g1 g2 g3 k0 k1 k2 k3 hfin
  go_enter Try.func34, Try.ntmps34
  go_wp2_with fail
  go_returns
  exact ⟨HF.out, by go_grown⟩

set_option maxHeartbeats 2000000 in
/-- wideMul -/
theorem wideMul64 (a b : Int) (ha : Word a) (hb : Word b) (w : World) :
    Calls Try.prog 43 #[.int .u64 a, .int .u64 b] w fun e w' => (∃ h l, e = .returned (.agg #[.int .u64 h, .int .u64 l]) ∧ Word h ∧ Word l ∧ a * b = V2 h l) ∧ Below w.heap.size w w' := by
  obtain ⟨p, q, m1, m2, e0⟩ := mul_ex ha hb
  have M0 := mulW ha hb m2 e0
  have HM : Hid (∀ w : World, Calls Try.prog 39 #[.int .u64 a, .int .u64 b] w fun e w' => e = .returned (.tuple #[.int .u64 p, .int .u64 q]) ∧ w' = w) := M0
  have HF : Hid (Word p ∧ Word q ∧ a * b = V2 p q) := ⟨m1, m2, e0⟩
  clear M0 m1 m2 e0 ha hb
  go_enter Try.func43, Try.ntmps43
  go_wp2_with fail
  refine (HM.out _).mono ?_
  rintro e w' ⟨rfl, rfl⟩
  go_wp2_with fail
  go_returns
  exact ⟨⟨p, q, rfl, HF.out⟩, by go_grown⟩

set_option maxHeartbeats 2000000 in
/-- (uint128).add -/
theorem add128 (a1 a0 b1 b0 : Int) (h1 : Word a1) (h0 : Word a0) (g1 : Word b1) (g0 : Word b0) (w : World) :
    Calls Try.prog 46 #[.agg #[.int .u64 a1, .int .u64 a0], .agg #[.int .u64 b1, .int .u64 b0]] w fun e w' => (∃ k r1 r0 ok, e = .returned (.tuple #[.agg #[.int .u64 r1, .int .u64 r0], .bool ok]) ∧ (Word r1 ∧ Word r0) ∧ V2 a1 a0 + V2 b1 b0 = V3 k r1 r0 ∧ 0 ≤ k) ∧ Below w.heap.size w w' := by
  obtain ⟨s0, c0, n0, k0, f0⟩ := add_ex h0 g0 (.inl rfl : (0 : Int) = 0 ∨ (0 : Int) = 1)
  obtain ⟨s1, c1, n1, k1, f1⟩ := add_ex h1 g1 k0
  have A0 := addW h0 g0 (.inl rfl) n0 f0
  have A1 := addW h1 g1 k0 n1 f1
  have hfin : (Word s1 ∧ Word s0) ∧ V2 a1 a0 + V2 b1 b0 = V3 c1 s1 s0 ∧ 0 ≤ c1 := by
    refine ⟨⟨n1, n0⟩, ?_, by omega⟩
    unfold V2 V3
    omega
  have HF : Hid ((Word s1 ∧ Word s0) ∧ V2 a1 a0 + V2 b1 b0 = V3 c1 s1 s0 ∧ 0 ≤ c1) := hfin
  clear f0 f1 n0 n1 h0 h1 g0 g1 k0 k1 hfin
  go_enter Try.func46, Try.ntmps46
  go_wp2_with fail
  go_returns
  exact ⟨⟨c1, s1, s0, _, rfl, HF.out⟩, by go_grown⟩

set_option maxHeartbeats 2000000 in
/-- (uint128).sub -/
theorem sub128 (a1 a0 b1 b0 : Int) (h1 : Word a1) (h0 : Word a0) (g1 : Word b1) (g0 : Word b0) (hle : V2 b1 b0 ≤ V2 a1 a0) (w : World) :
    Calls Try.prog 45 #[.agg #[.int .u64 a1, .int .u64 a0], .agg #[.int .u64 b1, .int .u64 b0]] w fun e w' => (∃ r1 r0, e = .returned (.agg #[.int .u64 r1, .int .u64 r0]) ∧ (Word r1 ∧ Word r0) ∧ V2 a1 a0 - V2 b1 b0 = V2 r1 r0) ∧ Below w.heap.size w w' := by
  obtain ⟨s0, c0, n0, k0, f0⟩ := sub_ex h0 g0 (.inl rfl : (0 : Int) = 0 ∨ (0 : Int) = 1)
  obtain ⟨s1, c1, n1, k1, f1⟩ := sub_ex h1 g1 k0
  have A0 := subW h0 g0 (.inl rfl) n0 k0 f0
  have A1 := subW h1 g1 k0 n1 k1 f1
  have hfin : (Word s1 ∧ Word s0) ∧ V2 a1 a0 - V2 b1 b0 = V2 s1 s0 := by
    refine ⟨⟨n1, n0⟩, ?_⟩
    obtain ⟨n3, n4⟩ := n0
    obtain ⟨n5, n6⟩ := n1
    unfold V2 at *
    omega
  have HF : Hid ((Word s1 ∧ Word s0) ∧ V2 a1 a0 - V2 b1 b0 = V2 s1 s0) := hfin
  clear f0 f1 n0 n1 h0 h1 g0 g1 k0 k1 hfin hle
  go_enter Try.func45, Try.ntmps45
  go_wp2_with fail
  go_returns
  exact ⟨⟨s1, s0, rfl, HF.out⟩, by go_grown⟩

set_option maxHeartbeats 2000000 in
/-- (uint128).wideMul -/
theorem wideMul128 (a1 a0 b : Int) (h1 : Word a1) (h0 : Word a0) (hb : Word b) (w : World) :
    Calls Try.prog 47 #[.agg #[.int .u64 a1, .int .u64 a0], .int .u64 b] w fun e w' => (∃ r2 r1 r0, e = .returned (.agg #[.int .u64 r2, .int .u64 r1, .int .u64 r0]) ∧ (Word r2 ∧ Word r1 ∧ Word r0) ∧ V2 a1 a0 * b = V3 r2 r1 r0) ∧ Below w.heap.size w w' := by
  obtain ⟨p0, q0, m1, m2, e0⟩ := mul_ex h0 hb
  obtain ⟨p1, q1, m3, m4, e1⟩ := mul_ex h1 hb
  obtain ⟨s1, c1, n1, k1, f1⟩ := add_ex m4 m1 (.inl rfl : (0 : Int) = 0 ∨ (0 : Int) = 1)
  have A0 := addW m4 m1 (.inl rfl) n1 f1
  have M0 := mulW h0 hb m2 e0
  have M1 := mulW h1 hb m4 e1
  have hp : p1 + c1 < 18446744073709551616 := by
    have h5 : a1 * b ≤ 18446744073709551615 * b := Int.mul_le_mul_of_nonneg_right (by have := h1.2; omega) hb.1
    have := hb.2
    have := m4.1
    omega
  have W1 : IntKind.u64.wrap (p1 + c1) = p1 + c1 := by
    have := m3.1
    rw [IntKind.wrap_u64]
    omega
  have hfin : (Word (p1 + c1) ∧ Word s1 ∧ Word q0) ∧ V2 a1 a0 * b = V3 (p1 + c1) s1 q0 := by
    refine ⟨⟨⟨by have := m3.1; omega, hp⟩, n1, m2⟩, ?_⟩
    unfold V2 V3
    rw [hor, e0, e1]
    omega
  have HM : Hid ((∀ w : World, Calls Try.prog 39 #[.int .u64 a0, .int .u64 b] w fun e w' => e = .returned (.tuple #[.int .u64 p0, .int .u64 q0]) ∧ w' = w) ∧ (∀ w : World, Calls Try.prog 39 #[.int .u64 a1, .int .u64 b] w fun e w' => e = .returned (.tuple #[.int .u64 p1, .int .u64 q1]) ∧ w' = w)) := ⟨M0, M1⟩
  have HF : Hid ((Word (p1 + c1) ∧ Word s1 ∧ Word q0) ∧ V2 a1 a0 * b = V3 (p1 + c1) s1 q0) := hfin
  clear M0 M1 e0 e1 f1 m1 m2 m3 m4 n1 h0 h1 hb k1 hfin hp
  go_enter Try.func47, Try.ntmps47
  go_wp2_with fail
  refine (HM.out.1 _).mono ?_
  rintro e w' ⟨rfl, rfl⟩
  go_wp2_with fail
  refine (HM.out.2 _).mono ?_
  rintro e w' ⟨rfl, rfl⟩
  go_wp2_with fail
  go_returns
  exact ⟨⟨_, s1, q0, rfl, HF.out⟩, by go_grown⟩

set_option maxHeartbeats 2000000 in
/-- checkedAdd -/
theorem checkedAdd (a b : Int) (ha : Word a) (hb : Word b) (w : World) :
    Calls Try.prog 37 #[.int .u64 a, .int .u64 b] w fun e w' => (∃ k r ok, e = .returned (.tuple #[.int .u64 r, .bool ok]) ∧ Word r ∧ a + b = V2 k r ∧ 0 ≤ k ∧ (ok = true ↔ k = 0)) ∧ w' = w := by
  obtain ⟨s0, c0, n0, k0, f0⟩ := add_ex ha hb (.inl rfl : (0 : Int) = 0 ∨ (0 : Int) = 1)
  have A0 := addW ha hb (.inl rfl) n0 f0
  have HF : Hid (Word s0 ∧ a + b = V2 c0 s0 ∧ 0 ≤ c0) := ⟨n0, by unfold V2; omega, by omega⟩
  clear f0 n0 ha hb k0
  go_enter Try.func37, Try.ntmps37
  go_wp2_with fail
  go_returns
  exact ⟨⟨c0, s0, _, rfl, HF.out.1, HF.out.2.1, HF.out.2.2, by simp⟩, rfl⟩
end Go.Proofs.Qxb6616476a
