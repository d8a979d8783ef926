import Derived.Test.Qxb6616476aFlot
namespace Go.Proofs.Qxb6616476a
open Go.RowKit Go.Lib

/-- the words of a number -/
def U2 (x : Int) : Array Value := #[.int .u64 (x / 18446744073709551616 % 18446744073709551616), .int .u64 (x % 18446744073709551616)]
def U3 (x : Int) : Array Value := #[.int .u64 (x / 340282366920938463463374607431768211456 % 18446744073709551616), .int .u64 (x / 18446744073709551616 % 18446744073709551616), .int .u64 (x % 18446744073709551616)]
def U4 (x : Int) : Array Value := #[.int .u64 (x / 6277101735386680763835789423207666416102355444464034512896 % 18446744073709551616), .int .u64 (x / 340282366920938463463374607431768211456 % 18446744073709551616), .int .u64 (x / 18446744073709551616 % 18446744073709551616), .int .u64 (x % 18446744073709551616)]
theorem wmod (x : Int) : Word (x % 18446744073709551616) := ⟨by omega, by omega⟩
theorem U2_eq {h l : Int} (hh : Word h) (hl : Word l) : #[.int .u64 h, .int .u64 l] = U2 (V2 h l) := by
  obtain ⟨a1, a2⟩ := hh; obtain ⟨b1, b2⟩ := hl
  unfold U2 V2
  rw [show (h * 18446744073709551616 + l) / 18446744073709551616 % 18446744073709551616 = h by omega, show (h * 18446744073709551616 + l) % 18446744073709551616 = l by omega]
theorem U3_eq {a b c : Int} (ha : Word a) (hb : Word b) (hc : Word c) : #[.int .u64 a, .int .u64 b, .int .u64 c] = U3 (V3 a b c) := by
  obtain ⟨a1, a2⟩ := ha; obtain ⟨b1, b2⟩ := hb; obtain ⟨c1, c2⟩ := hc
  unfold U3 V3
  have e2 : ((a * 18446744073709551616 + b) * 18446744073709551616 + c) / 340282366920938463463374607431768211456 = a := by omega
  have e1 : ((a * 18446744073709551616 + b) * 18446744073709551616 + c) / 18446744073709551616 = a * 18446744073709551616 + b := by omega
  rw [e2, e1, show a % 18446744073709551616 = a by omega, show (a * 18446744073709551616 + b) % 18446744073709551616 = b by omega, show ((a * 18446744073709551616 + b) * 18446744073709551616 + c) % 18446744073709551616 = c by omega]
theorem U4_eq {a b c d : Int} (ha : Word a) (hb : Word b) (hc : Word c) (hd : Word d) : #[.int .u64 a, .int .u64 b, .int .u64 c, .int .u64 d] = U4 (V4 a b c d) := by
  obtain ⟨a1, a2⟩ := ha; obtain ⟨b1, b2⟩ := hb; obtain ⟨c1, c2⟩ := hc; obtain ⟨d1, d2⟩ := hd
  unfold U4 V4
  have e3 : (((a * 18446744073709551616 + b) * 18446744073709551616 + c) * 18446744073709551616 + d) / 6277101735386680763835789423207666416102355444464034512896 = a := by omega
  have e2 : (((a * 18446744073709551616 + b) * 18446744073709551616 + c) * 18446744073709551616 + d) / 340282366920938463463374607431768211456 = a * 18446744073709551616 + b := by omega
  have e1 : (((a * 18446744073709551616 + b) * 18446744073709551616 + c) * 18446744073709551616 + d) / 18446744073709551616 = (a * 18446744073709551616 + b) * 18446744073709551616 + c := by omega
  rw [e3, e2, e1, show a % 18446744073709551616 = a by omega, show (a * 18446744073709551616 + b) % 18446744073709551616 = b by omega, show ((a * 18446744073709551616 + b) * 18446744073709551616 + c) % 18446744073709551616 = c by omega, show (((a * 18446744073709551616 + b) * 18446744073709551616 + c) * 18446744073709551616 + d) % 18446744073709551616 = d by omega]
theorem U4_mod (k a b c d : Int) : U4 (V5 k a b c d) = U4 (V4 a b c d) := by
  unfold U4
  have e : V5 k a b c d = k * 115792089237316195423570985008687907853269984665640564039457584007913129639936 + V4 a b c d := by unfold V5 V4; omega
  rw [e]
  generalize V4 a b c d = z
  rw [show (k * 115792089237316195423570985008687907853269984665640564039457584007913129639936 + z) / 6277101735386680763835789423207666416102355444464034512896 % 18446744073709551616 = z / 6277101735386680763835789423207666416102355444464034512896 % 18446744073709551616 by omega,
    show (k * 115792089237316195423570985008687907853269984665640564039457584007913129639936 + z) / 340282366920938463463374607431768211456 % 18446744073709551616 = z / 340282366920938463463374607431768211456 % 18446744073709551616 by omega,
    show (k * 115792089237316195423570985008687907853269984665640564039457584007913129639936 + z) / 18446744073709551616 % 18446744073709551616 = z / 18446744073709551616 % 18446744073709551616 by omega,
    show (k * 115792089237316195423570985008687907853269984665640564039457584007913129639936 + z) % 18446744073709551616 = z % 18446744073709551616 by omega]
theorem U2_val {x : Int} (h : 0 ≤ x ∧ x < 340282366920938463463374607431768211456) : V2 (x / 18446744073709551616 % 18446744073709551616) (x % 18446744073709551616) = x := by unfold V2; omega
theorem U3_val {x : Int} (h : 0 ≤ x ∧ x < 6277101735386680763835789423207666416102355444464034512896) : V3 (x / 340282366920938463463374607431768211456 % 18446744073709551616) (x / 18446744073709551616 % 18446744073709551616) (x % 18446744073709551616) = x := by unfold V3; omega
def Big (x : Int) : Prop := 0 ≤ x ∧ x < 115792089237316195423570985008687907853269984665640564039457584007913129639936
theorem U4_val {x : Int} (h : Big x) : V4 (x / 6277101735386680763835789423207666416102355444464034512896 % 18446744073709551616) (x / 340282366920938463463374607431768211456 % 18446744073709551616) (x / 18446744073709551616 % 18446744073709551616) (x % 18446744073709551616) = x := by
  obtain ⟨h1, h2⟩ := h
  unfold V4; omega
theorem V4_big {a b c d : Int} (ha : Word a) (hb : Word b) (hc : Word c) (hd : Word d) : Big (V4 a b c d) := by
  obtain ⟨a1, a2⟩ := ha; obtain ⟨b1, b2⟩ := hb; obtain ⟨c1, c2⟩ := hc; obtain ⟨d1, d2⟩ := hd
  unfold V4
  exact ⟨by omega, by omega⟩
theorem V5_fits {k a b c d : Int} (ha : Word a) (hb : Word b) (hc : Word c) (hd : Word d) (hk : 0 ≤ k) : k = 0 ↔ V5 k a b c d < 115792089237316195423570985008687907853269984665640564039457584007913129639936 := by
  have h := V4_big ha hb hc hd
  obtain ⟨h1, h2⟩ := h
  have e : V5 k a b c d = k * 115792089237316195423570985008687907853269984665640564039457584007913129639936 + V4 a b c d := by unfold V5 V4; omega
  rw [e]
  omega
theorem wide2 (a b : Int) (ha : Word a) (hb : Word b) (w : World) : Calls Try.prog 43 #[.int .u64 a, .int .u64 b] w fun e w' => e = .returned (.agg (U2 (a * b))) ∧ Below w.heap.size w w' := by
  refine (wideMul64 a b ha hb w).mono ?_
  rintro e w' ⟨⟨h, l, rfl, hh, hl, e1⟩, hb⟩
  exact ⟨by rw [U2_eq hh hl, e1], hb⟩
theorem sub2 (x y : Int) (hx : 0 ≤ x ∧ x < 340282366920938463463374607431768211456) (hy : 0 ≤ y ∧ y ≤ x) (w : World) : Calls Try.prog 45 #[.agg (U2 x), .agg (U2 y)] w fun e w' => e = .returned (.agg (U2 (x - y))) ∧ Below w.heap.size w w' := by
  have ex := U2_val hx
  have ey := U2_val (x := y) (by omega)
  refine (sub128 _ _ _ _ (wmod _) (wmod _) (wmod _) (wmod _) (by rw [ex, ey]; exact hy.2) w).mono ?_
  rintro e w' ⟨⟨r1, r0, rfl, ⟨h1, h0⟩, e1⟩, hb⟩
  rw [ex, ey] at e1
  exact ⟨by rw [U2_eq h1 h0, e1], hb⟩
theorem add2 (x y : Int) (hx : 0 ≤ x) (hy : 0 ≤ y) (hxy : x + y < 340282366920938463463374607431768211456) (w : World) : Calls Try.prog 46 #[.agg (U2 x), .agg (U2 y)] w fun e w' => (∃ ok, e = .returned (.tuple #[.agg (U2 (x + y)), .bool ok])) ∧ Below w.heap.size w w' := by
  have ex := U2_val (x := x) (by omega)
  have ey := U2_val (x := y) (by omega)
  refine (add128 _ _ _ _ (wmod _) (wmod _) (wmod _) (wmod _) w).mono ?_
  rintro e w' ⟨⟨k, r1, r0, ok, rfl, ⟨h1, h0⟩, e1, hk⟩, hb⟩
  rw [ex, ey] at e1
  refine ⟨⟨ok, ?_⟩, hb⟩
  obtain ⟨p1, p2⟩ := h1; obtain ⟨q1, q2⟩ := h0
  have e2 : x + y = V2 r1 r0 := by unfold V3 at e1; unfold V2; omega
  rw [U2_eq ⟨p1, p2⟩ ⟨q1, q2⟩, e2]
theorem cmp2 (x y : Int) (hx : 0 ≤ x ∧ x < 340282366920938463463374607431768211456) (hy : 0 ≤ y ∧ y < 340282366920938463463374607431768211456) (w : World) : Calls Try.prog 44 #[.agg (U2 x), .agg (U2 y)] w fun e w' => e = .returned (.int .i64 (cmpI x y)) ∧ Below w.heap.size w w' := by
  refine (cmp128 _ _ _ _ (wmod _) (wmod _) w).mono ?_
  rintro e w' ⟨rfl, hb⟩
  rw [U2_val hx, U2_val hy]
  exact ⟨rfl, hb⟩
theorem wide3 (x b : Int) (hx : 0 ≤ x ∧ x < 340282366920938463463374607431768211456) (hb : Word b) (w : World) : Calls Try.prog 47 #[.agg (U2 x), .int .u64 b] w fun e w' => e = .returned (.agg (U3 (x * b))) ∧ Below w.heap.size w w' := by
  refine (wideMul128 _ _ _ (wmod _) (wmod _) hb w).mono ?_
  rintro e w' ⟨⟨r2, r1, r0, rfl, ⟨h2, h1, h0⟩, e1⟩, hb⟩
  rw [U2_val hx] at e1
  exact ⟨by rw [U3_eq h2 h1 h0, e1], hb⟩
theorem cmp3 (x y : Int) (hx : 0 ≤ x ∧ x < 6277101735386680763835789423207666416102355444464034512896) (hy : 0 ≤ y ∧ y < 6277101735386680763835789423207666416102355444464034512896) (w : World) : Calls Try.prog 48 #[.agg (U3 x), .agg (U3 y)] w fun e w' => e = .returned (.int .i64 (cmpI x y)) ∧ Below w.heap.size w w' := by
  refine (cmp192 _ _ _ _ _ _ (wmod _) (wmod _) (wmod _) (wmod _) w).mono ?_
  rintro e w' ⟨rfl, hb⟩
  rw [U3_val hx, U3_val hy]
  exact ⟨rfl, hb⟩
theorem isMul4 {x b : Int} {e : Ending} (h : IsMul x b e) : e = .returned (.tuple #[.agg (U4 (x * b)), .bool (decide (x * b < 115792089237316195423570985008687907853269984665640564039457584007913129639936))]) := by
  obtain ⟨k, r3, r2, r1, r0, ok, rfl, ⟨h3, h2, h1, h0⟩, e1, hk, hok⟩ := h
  rw [U4_eq h3 h2 h1 h0, e1, U4_mod]
  rw [V5_fits h3 h2 h1 h0 hk] at hok
  rw [show ok = decide (V5 k r3 r2 r1 r0 < 115792089237316195423570985008687907853269984665640564039457584007913129639936) by rw [Bool.eq_iff_iff, hok, decide_eq_true_iff]]
theorem mul4 (x b : Int) (hx : Big x) (hb : Word b) (w : World) : Calls Try.prog 30 #[.agg (U4 x), .int .u64 b] w fun e w' => e = .returned (.tuple #[.agg (U4 (x * b)), .bool (decide (x * b < 115792089237316195423570985008687907853269984665640564039457584007913129639936))]) ∧ Below w.heap.size w w' := by
  refine (mul256 _ _ _ _ _ (wmod _) (wmod _) (wmod _) (wmod _) hb w).mono ?_
  rintro e w' ⟨h, hb⟩
  rw [U4_val hx] at h
  exact ⟨isMul4 h, hb⟩
theorem mul42 (x y : Int) (hx : Big x) (hy : 0 ≤ y ∧ y < 340282366920938463463374607431768211456) (w : World) : Calls Try.prog 31 #[.agg (U4 x), .agg (U2 y)] w fun e w' => e = .returned (.tuple #[.agg (U4 (x * y)), .bool (decide (x * y < 115792089237316195423570985008687907853269984665640564039457584007913129639936))]) ∧ Below w.heap.size w w' := by
  refine (mul128 _ _ _ _ _ _ (wmod _) (wmod _) (wmod _) (wmod _) (wmod _) (wmod _) w).mono ?_
  rintro e w' ⟨h, hb⟩
  rw [U4_val hx, U2_val hy] at h
  exact ⟨isMul4 h, hb⟩
theorem add4 (x y : Int) (hx : Big x) (hy : Big y) (w : World) : Calls Try.prog 34 #[.agg (U4 x), .agg (U4 y)] w fun e w' => e = .returned (.tuple #[.agg (U4 (x + y)), .bool (decide (x + y < 115792089237316195423570985008687907853269984665640564039457584007913129639936))]) ∧ Below w.heap.size w w' := by
  refine (add256 _ _ _ _ _ _ _ _ (wmod _) (wmod _) (wmod _) (wmod _) (wmod _) (wmod _) (wmod _) (wmod _) w).mono ?_
  rintro e w' ⟨⟨k, r3, r2, r1, r0, ok, rfl, ⟨h3, h2, h1, h0⟩, e1, hk, hok⟩, hb⟩
  rw [U4_val hx, U4_val hy] at e1
  refine ⟨?_, hb⟩
  rw [U4_eq h3 h2 h1 h0, e1, U4_mod]
  rw [V5_fits h3 h2 h1 h0 hk] at hok
  rw [show ok = decide (V5 k r3 r2 r1 r0 < 115792089237316195423570985008687907853269984665640564039457584007913129639936) by rw [Bool.eq_iff_iff, hok, decide_eq_true_iff]]
theorem quo4 (x b : Int) (hx : Big x) (hb : Word b) (hb0 : 0 < b) (w : World) : Calls Try.prog 32 #[.agg (U4 x), .int .u64 b] w fun e w' => e = .returned (.tuple #[.agg (U4 (x / b)), .int .u64 (x % b)]) ∧ Below w.heap.size w w' := by
  refine (quoRem_any _ _ _ _ _ (wmod _) (wmod _) (wmod _) (wmod _) hb hb0 w).mono ?_
  rintro e w' ⟨⟨q3, q2, q1, q0, r, rfl, ⟨h3, h2, h1, h0⟩, e1, r1, r2⟩, hb⟩
  rw [U4_val hx] at e1
  have e2 : x / b = V4 q3 q2 q1 q0 := by
    rw [e1, Int.mul_comm, Int.add_comm, Int.add_mul_ediv_left _ _ (by omega), Int.ediv_eq_zero_of_lt r1 r2, Int.zero_add]
  have e3 : x % b = r := by
    rw [e1, Int.mul_comm, Int.add_comm, Int.add_mul_emod_self_left, Int.emod_eq_of_lt r1 r2]
  exact ⟨by rw [U4_eq h3 h2 h1 h0, e2, e3], hb⟩
end Go.Proofs.Qxb6616476a
