import Derived.Test.Qxb6616476aDiv
import Derived.StillTactics
import Derived.Laws.Pointers
import Derived.Handy
namespace Go.Proofs.Qxb6616476a
open Go.RowKit Go.Lib

/-- a word -/
def Word (x : Int) : Prop := 0 ≤ x ∧ x < 18446744073709551616
theorem mul_ex {x y : Int} (hx : Word x) (hy : Word y) : ∃ h l, Word h ∧ Word l ∧ x * y = h * 18446744073709551616 + l := by
  refine ⟨x * y / 18446744073709551616, x * y % 18446744073709551616, ⟨?_, ?_⟩, ⟨by omega, by omega⟩, by omega⟩
  · have := Int.mul_nonneg hx.1 hy.1
    omega
  · have h1 : x * y ≤ 18446744073709551615 * y := Int.mul_le_mul_of_nonneg_right (by have := hx.2; omega) hy.1
    have := hy.2
    omega
theorem mulW {x y h l : Int} (hx : Word x) (hy : Word y) (hl : Word l) (e : x * y = h * 18446744073709551616 + l) (w : World) :
    Calls Try.prog 39 #[.int .u64 x, .int .u64 y] w fun e w' => e = .returned (.tuple #[.int .u64 h, .int .u64 l]) ∧ w' = w := by
  refine (mul64 x y hx.1 hx.2 hy.1 hy.2 w).mono ?_
  rintro e' w' ⟨rfl, rfl⟩
  have h1 : x * y / 18446744073709551616 = h := by have := hl.1; have := hl.2; omega
  have h2 : x * y % 18446744073709551616 = l := by have := hl.1; have := hl.2; omega
  exact ⟨by rw [h1, h2], rfl⟩
theorem add_ex {x y c : Int} (hx : Word x) (hy : Word y) (hc : c = 0 ∨ c = 1) : ∃ s k, Word s ∧ (k = 0 ∨ k = 1) ∧ x + y + c = k * 18446744073709551616 + s := by
  obtain ⟨x1, x2⟩ := hx
  obtain ⟨y1, y2⟩ := hy
  exact ⟨(x + y + c) % 18446744073709551616, (x + y + c) / 18446744073709551616, ⟨by omega, by omega⟩, by omega, by omega⟩
theorem addW {x y c s k : Int} (hx : Word x) (hy : Word y) (hc : c = 0 ∨ c = 1) (hs : Word s) (e : x + y + c = k * 18446744073709551616 + s) (w : World) : (callFunc 40 #[.int .u64 x, .int .u64 y, .int .u64 c]).run Try.prog w =
    .ok (.value (.tuple #[.int .u64 s, .int .u64 k])) w := by
  rw [add64 x y c hx.1 hy.1 (by omega) (by omega) w]
  obtain ⟨s1, s2⟩ := hs
  have h1 : (x + y + c) % 18446744073709551616 = s := by omega
  have h2 : (x + y + c) / 18446744073709551616 = k := by omega
  rw [h1, h2]
theorem sub_ex {x y c : Int} (hx : Word x) (hy : Word y) (hc : c = 0 ∨ c = 1) : ∃ s k, Word s ∧ (k = 0 ∨ k = 1) ∧ x - y - c = s - k * 18446744073709551616 := by
  obtain ⟨x1, x2⟩ := hx
  obtain ⟨y1, y2⟩ := hy
  refine ⟨(x - y - c) % 18446744073709551616, if x < y + c then 1 else 0, ⟨by omega, by omega⟩, ?_, ?_⟩
  · split <;> simp
  · split <;> omega
theorem subW {x y c s k : Int} (hx : Word x) (hy : Word y) (hc : c = 0 ∨ c = 1) (hs : Word s) (hk : k = 0 ∨ k = 1) (e : x - y - c = s - k * 18446744073709551616) (w : World) : (callFunc 51 #[.int .u64 x, .int .u64 y, .int .u64 c]).run Try.prog w =
    .ok (.value (.tuple #[.int .u64 s, .int .u64 k])) w := by
  rw [sub64 x y c hx.1 hy.1 hy.2 (by omega) (by omega) w]
  obtain ⟨s1, s2⟩ := hs
  obtain ⟨x1, x2⟩ := hx
  obtain ⟨y1, y2⟩ := hy
  have h1 : (x - y - c) % 18446744073709551616 = s := by omega
  have h2 : (if x < y + c then (1 : Int) else 0) = k := by split <;> omega
  rw [h1, h2]

/-- four words, five words -/
def V4 (a b c d : Int) : Int := ((a * 18446744073709551616 + b) * 18446744073709551616 + c) * 18446744073709551616 + d
def V5 (k a b c d : Int) : Int := (((k * 18446744073709551616 + a) * 18446744073709551616 + b) * 18446744073709551616 + c) * 18446744073709551616 + d
theorem hor (t d x : Int) : (t * 18446744073709551616 + d) * x = t * x * 18446744073709551616 + d * x := by rw [Int.add_mul, Int.mul_right_comm]
theorem V4_mul (a b c d x : Int) : V4 a b c d * x = V4 (a * x) (b * x) (c * x) (d * x) := by
  unfold V4
  rw [hor _ _ x, hor _ _ x, hor _ _ x]
/-- what (uint256).mul gives -/
def IsMul (x b : Int) (e : Ending) : Prop := ∃ k r3 r2 r1 r0 ok, e = .returned (.tuple #[.agg #[.int .u64 r3, .int .u64 r2, .int .u64 r1, .int .u64 r0], .bool ok]) ∧ (Word r3 ∧ Word r2 ∧ Word r1 ∧ Word r0) ∧ x * b = V5 k r3 r2 r1 r0 ∧ 0 ≤ k ∧ (ok = true ↔ k = 0)

set_option maxHeartbeats 2000000 in
/-- (uint256).mul -/
theorem mul256 (a3 a2 a1 a0 b : Int) (h3 : Word a3) (h2 : Word a2) (h1 : Word a1) (h0 : Word a0) (hb : Word b) (w : World) :
    Calls Try.prog 30 #[.agg #[.int .u64 a3, .int .u64 a2, .int .u64 a1, .int .u64 a0], .int .u64 b] w fun e w' => IsMul (V4 a3 a2 a1 a0) b e ∧ Below w.heap.size w w' := by
  obtain ⟨p0, q0, m1, m2, e0⟩ := mul_ex h0 hb
  obtain ⟨p1, q1, m3, m4, e1⟩ := mul_ex h1 hb
  obtain ⟨p2, q2, m5, m6, e2⟩ := mul_ex h2 hb
  obtain ⟨p3, q3, m7, m8, e3⟩ := mul_ex h3 hb
  obtain ⟨s1, c1, n1, n2, f1⟩ := add_ex m4 m1 (.inl rfl : (0 : Int) = 0 ∨ (0 : Int) = 1)
  obtain ⟨s2, c2, n3, n4, f2⟩ := add_ex m6 m3 n2
  obtain ⟨s3, c3, n5, n6, f3⟩ := add_ex m8 m5 n4
  have A1 := addW m4 m1 (.inl rfl) n1 f1
  have A2 := addW m6 m3 n2 n3 f2
  have A3 := addW m8 m5 n4 n5 f3
  have M0 := mulW h0 hb m2 e0
  have M1 := mulW h1 hb m4 e1
  have M2 := mulW h2 hb m6 e2
  have M3 := mulW h3 hb m8 e3
  have hfin : ∀ ok : Bool, (ok = true ↔ p3 + c3 = 0) → IsMul (V4 a3 a2 a1 a0) b (.returned (.tuple #[.agg #[.int .u64 s3, .int .u64 s2, .int .u64 s1, .int .u64 q0], .bool ok])) := by
    intro ok hok
    refine ⟨p3 + c3, s3, s2, s1, q0, ok, rfl, ⟨n5, n3, n1, m2⟩, ?_, by have := m7.1; omega, hok⟩
    rw [V4_mul, e0, e1, e2, e3]
    unfold V4 V5
    omega
  have hc3 : 0 ≤ p3 ∧ 0 ≤ c3 := ⟨m7.1, by omega⟩
  have HM : Hid ((∀ w : World, Calls Try.prog 39 #[.int .u64 a0, .int .u64 b] w fun e w' => e = .returned (.tuple #[.int .u64 p0, .int .u64 q0]) ∧ w' = w) ∧ (∀ w : World, Calls Try.prog 39 #[.int .u64 a1, .int .u64 b] w fun e w' => e = .returned (.tuple #[.int .u64 p1, .int .u64 q1]) ∧ w' = w) ∧ (∀ w : World, Calls Try.prog 39 #[.int .u64 a2, .int .u64 b] w fun e w' => e = .returned (.tuple #[.int .u64 p2, .int .u64 q2]) ∧ w' = w) ∧ (∀ w : World, Calls Try.prog 39 #[.int .u64 a3, .int .u64 b] w fun e w' => e = .returned (.tuple #[.int .u64 p3, .int .u64 q3]) ∧ w' = w)) := ⟨M0, M1, M2, M3⟩
  have HF : Hid ((∀ ok : Bool, (ok = true ↔ p3 + c3 = 0) → IsMul (V4 a3 a2 a1 a0) b (.returned (.tuple #[.agg #[.int .u64 s3, .int .u64 s2, .int .u64 s1, .int .u64 q0], .bool ok]))) ∧ 0 ≤ p3 ∧ 0 ≤ c3) := ⟨hfin, hc3⟩
  clear M0 M1 M2 M3 e0 e1 e2 e3 f1 f2 f3 m1 m2 m3 m4 m5 m6 m7 m8 n1 n3 n5 h0 h1 h2 h3 hb n2 n4 n6 hfin hc3
  go_enter Try.func30, Try.ntmps30
  go_wp2_with fail
  refine (HM.out.1 _).mono ?_
  rintro e w' ⟨rfl, rfl⟩
  go_wp2_with fail
  refine (HM.out.2.1 _).mono ?_
  rintro e w' ⟨rfl, rfl⟩
  go_wp2_with fail
  refine (HM.out.2.2.1 _).mono ?_
  rintro e w' ⟨rfl, rfl⟩
  go_wp2_with fail
  refine (HM.out.2.2.2 _).mono ?_
  rintro e w' ⟨rfl, rfl⟩
  go_wp2_with fail
  all_goals go_returns
  all_goals refine ⟨HF.out.1 _ ?_, by go_grown⟩
  all_goals (have hh := HF.out.2; simp_all; try omega)
end Go.Proofs.Qxb6616476a
