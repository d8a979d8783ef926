import Derived.Test.Qxb6616476aWide5
namespace Go.Proofs.Qxb6616476a
open Go.RowKit Go.Lib

theorem div_ex {hi lo y : Int} (h1 : 0 ≤ hi) (h2 : hi < y) (hl : Word lo) : ∃ q r, Word q ∧ 0 ≤ r ∧ r < y ∧ hi * 18446744073709551616 + lo = q * y + r := by
  obtain ⟨l1, l2⟩ := hl
  have hp : 0 < y := by omega
  have h5 : hi * 18446744073709551616 + lo < 18446744073709551616 * y := by omega
  have h6 : 0 ≤ hi * 18446744073709551616 + lo := by omega
  generalize hi * 18446744073709551616 + lo = N at *
  have e := Int.mul_ediv_add_emod N y
  have r1 := Int.emod_nonneg N (by omega : y ≠ 0)
  have r2 := Int.emod_lt_of_pos N hp
  exact ⟨N / y, N % y, ⟨Int.ediv_nonneg h6 (by omega), Int.ediv_lt_of_lt_mul hp h5⟩, r1, r2, by rw [Int.mul_comm (N / y)]; exact e.symm⟩
theorem divW {hi lo y q r : Int} (h1 : 0 ≤ hi) (h2 : hi < y) (hl : Word lo) (hy : y < 18446744073709551616) (hr : 0 ≤ r) (hr' : r < y) (e : hi * 18446744073709551616 + lo = q * y + r) (w : World) :
    Calls Try.prog 41 #[.int .u64 hi, .int .u64 lo, .int .u64 y] w fun e w' => e = .returned (.tuple #[.int .u64 q, .int .u64 r]) ∧ ∃ n, w' = w.drewN n := by
  refine (div64 hi lo y h1 h2 hl.1 hl.2 hy w).mono ?_
  rintro e' w' ⟨rfl, hw⟩
  have hp : y ≠ 0 := by omega
  have e1 : (hi * 18446744073709551616 + lo) / y = q := by
    rw [e, Int.add_comm, Int.add_mul_ediv_right _ _ hp, Int.ediv_eq_zero_of_lt hr hr']
    omega
  have e2 : (hi * 18446744073709551616 + lo) % y = r := by
    rw [e, Int.add_comm, Int.add_mul_emod_self_right, Int.emod_eq_of_lt hr hr']
  exact ⟨by rw [e1, e2], hw⟩
theorem Blk.drews {w : World} {b : Nat} {cs : Array Value} {t : TypeId} (h : Blk w b cs t) (n : Nat) : Blk (w.drewN n) b cs t := h
theorem Blk.put {w : World} {b : Nat} {cs : Array Value} {t : TypeId} (h : Blk w b cs t) (i : Nat) (v : Value) : Blk (w.setCell ⟨b, i, none⟩ v) b (cs.setIfInBounds i v) t := by
  unfold Blk at *
  simp [World.setCell, Array.getElem?_modify, h]
theorem below_drewN {B : Nat} {a w : World} (h : Below B a w) (n : Nat) : Below B a (w.drewN n) := ⟨h.os, h.tape, h.output, h.size, h.block⟩

set_option maxHeartbeats 4000000 in
/-- (uint256).quoRem -/
theorem quoRem_any (a3 a2 a1 a0 b : Int) (h3 : Word a3) (h2 : Word a2) (h1 : Word a1) (h0 : Word a0) (hb : Word b) (hb0 : 0 < b) (w : World) :
    Calls Try.prog 32 #[.agg #[.int .u64 a3, .int .u64 a2, .int .u64 a1, .int .u64 a0], .int .u64 b] w fun e w' =>
      (∃ q3 q2 q1 q0 r, e = .returned (.tuple #[.agg #[.int .u64 q3, .int .u64 q2, .int .u64 q1, .int .u64 q0], .int .u64 r]) ∧ (Word q3 ∧ Word q2 ∧ Word q1 ∧ Word q0) ∧ V4 a3 a2 a1 a0 = V4 q3 q2 q1 q0 * b + r ∧ 0 ≤ r ∧ r < b) ∧ Below w.heap.size w w' := by
  obtain ⟨q3, r3, n3, s3, t3, e3⟩ := div_ex (hi := 0) (Int.le_refl 0) hb0 h3
  obtain ⟨q2, r2, n2, s2, t2, e2⟩ := div_ex s3 t3 h2
  obtain ⟨q1, r1, n1, s1, t1, e1⟩ := div_ex s2 t2 h1
  obtain ⟨q0, r0, n0, s0, t0, e0⟩ := div_ex s1 t1 h0
  have HM : Hid ((∀ w : World, Calls Try.prog 41 #[.int .u64 0, .int .u64 a3, .int .u64 b] w fun e w' => e = .returned (.tuple #[.int .u64 q3, .int .u64 r3]) ∧ ∃ n, w' = w.drewN n) ∧ (∀ w : World, Calls Try.prog 41 #[.int .u64 r3, .int .u64 a2, .int .u64 b] w fun e w' => e = .returned (.tuple #[.int .u64 q2, .int .u64 r2]) ∧ ∃ n, w' = w.drewN n) ∧ (∀ w : World, Calls Try.prog 41 #[.int .u64 r2, .int .u64 a1, .int .u64 b] w fun e w' => e = .returned (.tuple #[.int .u64 q1, .int .u64 r1]) ∧ ∃ n, w' = w.drewN n) ∧ (∀ w : World, Calls Try.prog 41 #[.int .u64 r1, .int .u64 a0, .int .u64 b] w fun e w' => e = .returned (.tuple #[.int .u64 q0, .int .u64 r0]) ∧ ∃ n, w' = w.drewN n)) :=
    ⟨divW (Int.le_refl 0) hb0 h3 hb.2 s3 t3 e3, divW s3 t3 h2 hb.2 s2 t2 e2, divW s2 t2 h1 hb.2 s1 t1 e1, divW s1 t1 h0 hb.2 s0 t0 e0⟩
  have HF : Hid ((Word q3 ∧ Word q2 ∧ Word q1 ∧ Word q0) ∧ V4 a3 a2 a1 a0 = V4 q3 q2 q1 q0 * b + r0 ∧ 0 ≤ r0 ∧ r0 < b) := by
    refine ⟨⟨n3, n2, n1, n0⟩, ?_, s0, t0⟩
    rw [V4_mul]
    unfold V4
    omega
  clear e3 e2 e1 e0 n3 n2 n1 n0 s3 s2 s1 s0 t3 t2 t1 t0 h3 h2 h1 h0 hb hb0
  have HB0 : Hid (Below w.heap.size w ((w.alloc (.cells #[.int .u64 a3, .int .u64 a2, .int .u64 a1, .int .u64 a0] 93)).alloc (.cells #[.int .u64 0, .int .u64 0, .int .u64 0, .int .u64 0] 93)) ∧
      Blk ((w.alloc (.cells #[.int .u64 a3, .int .u64 a2, .int .u64 a1, .int .u64 a0] 93)).alloc (.cells #[.int .u64 0, .int .u64 0, .int .u64 0, .int .u64 0] 93)) w.heap.size #[.int .u64 a3, .int .u64 a2, .int .u64 a1, .int .u64 a0] 93 ∧
      Blk ((w.alloc (.cells #[.int .u64 a3, .int .u64 a2, .int .u64 a1, .int .u64 a0] 93)).alloc (.cells #[.int .u64 0, .int .u64 0, .int .u64 0, .int .u64 0] 93)) (w.heap.size + 1) #[.int .u64 0, .int .u64 0, .int .u64 0, .int .u64 0] 93) := by
    refine ⟨by go_grown, (Blk.new _ _ _).alloc _, ?_⟩
    have h := Blk.new (w.alloc (.cells #[.int .u64 a3, .int .u64 a2, .int .u64 a1, .int .u64 a0] 93)) #[.int .u64 0, .int .u64 0, .int .u64 0, .int .u64 0] 93
    simp only [World.size_alloc] at h
    exact h
  go_enter Try.func32, Try.ntmps32
  go_wp2_with fail
  refine (HM.out.1 _).mono ?_
  rintro e w1 ⟨rfl, n1, hw⟩
  have HB1 : Hid (Below w.heap.size w w1 ∧ Blk w1 w.heap.size #[.int .u64 a3, .int .u64 a2, .int .u64 a1, .int .u64 a0] 93 ∧ Blk w1 (w.heap.size + 1) #[.int .u64 0, .int .u64 0, .int .u64 0, .int .u64 0] 93) := ⟨by rw [hw]; exact below_drewN HB0.out.1 _, by rw [hw]; exact HB0.out.2.1, by rw [hw]; exact HB0.out.2.2⟩
  clear hw HB0
  have x0 := HB1.out.2.1.cell 0
  have x1 := HB1.out.2.1.cell 1
  have x2 := HB1.out.2.1.cell 2
  have x3 := HB1.out.2.1.cell 3
  have y0 := HB1.out.2.2.cell 0
  have y1 := HB1.out.2.2.cell 1
  have y2 := HB1.out.2.2.cell 2
  have y3 := HB1.out.2.2.cell 3
  simp at x0 x1 x2 x3 y0 y1 y2 y3
  have f0 := HB1.out.2.2.froz 0
  have f1 := HB1.out.2.2.froz 1
  have f2 := HB1.out.2.2.froz 2
  have f3 := HB1.out.2.2.froz 3
  go_wp2_with fail
  refine (HM.out.2.1 _).mono ?_
  rintro e w2 ⟨rfl, n2, hw⟩
  have HB2 : Hid (Below w.heap.size w w2 ∧ Blk w2 w.heap.size #[.int .u64 a3, .int .u64 a2, .int .u64 a1, .int .u64 a0] 93 ∧ Blk w2 (w.heap.size + 1) #[.int .u64 q3, .int .u64 0, .int .u64 0, .int .u64 0] 93) := ⟨by rw [hw]; exact below_drewN (HB1.out.1.setCell (p := ⟨w.heap.size + 1, 0, none⟩) (by simp) _) _, by rw [hw]; exact HB1.out.2.1.set ⟨w.heap.size + 1, 0, none⟩ _ (by simp), by rw [hw]; exact HB1.out.2.2.put 0 (.int .u64 q3)⟩
  clear hw HB1 x0 x1 x2 x3 y0 y1 y2 y3 f0 f1 f2 f3
  have x0 := HB2.out.2.1.cell 0
  have x1 := HB2.out.2.1.cell 1
  have x2 := HB2.out.2.1.cell 2
  have x3 := HB2.out.2.1.cell 3
  have y0 := HB2.out.2.2.cell 0
  have y1 := HB2.out.2.2.cell 1
  have y2 := HB2.out.2.2.cell 2
  have y3 := HB2.out.2.2.cell 3
  simp at x0 x1 x2 x3 y0 y1 y2 y3
  have f0 := HB2.out.2.2.froz 0
  have f1 := HB2.out.2.2.froz 1
  have f2 := HB2.out.2.2.froz 2
  have f3 := HB2.out.2.2.froz 3
  go_wp2_with fail
  refine (HM.out.2.2.1 _).mono ?_
  rintro e w3 ⟨rfl, n3, hw⟩
  have HB3 : Hid (Below w.heap.size w w3 ∧ Blk w3 w.heap.size #[.int .u64 a3, .int .u64 a2, .int .u64 a1, .int .u64 a0] 93 ∧ Blk w3 (w.heap.size + 1) #[.int .u64 q3, .int .u64 q2, .int .u64 0, .int .u64 0] 93) := ⟨by rw [hw]; exact below_drewN (HB2.out.1.setCell (p := ⟨w.heap.size + 1, 1, none⟩) (by simp) _) _, by rw [hw]; exact HB2.out.2.1.set ⟨w.heap.size + 1, 1, none⟩ _ (by simp), by rw [hw]; exact HB2.out.2.2.put 1 (.int .u64 q2)⟩
  clear hw HB2 x0 x1 x2 x3 y0 y1 y2 y3 f0 f1 f2 f3
  have x0 := HB3.out.2.1.cell 0
  have x1 := HB3.out.2.1.cell 1
  have x2 := HB3.out.2.1.cell 2
  have x3 := HB3.out.2.1.cell 3
  have y0 := HB3.out.2.2.cell 0
  have y1 := HB3.out.2.2.cell 1
  have y2 := HB3.out.2.2.cell 2
  have y3 := HB3.out.2.2.cell 3
  simp at x0 x1 x2 x3 y0 y1 y2 y3
  have f0 := HB3.out.2.2.froz 0
  have f1 := HB3.out.2.2.froz 1
  have f2 := HB3.out.2.2.froz 2
  have f3 := HB3.out.2.2.froz 3
  go_wp2_with fail
  refine (HM.out.2.2.2 _).mono ?_
  rintro e w4 ⟨rfl, n4, hw⟩
  have HB4 : Hid (Below w.heap.size w w4 ∧ Blk w4 w.heap.size #[.int .u64 a3, .int .u64 a2, .int .u64 a1, .int .u64 a0] 93 ∧ Blk w4 (w.heap.size + 1) #[.int .u64 q3, .int .u64 q2, .int .u64 q1, .int .u64 0] 93) := ⟨by rw [hw]; exact below_drewN (HB3.out.1.setCell (p := ⟨w.heap.size + 1, 2, none⟩) (by simp) _) _, by rw [hw]; exact HB3.out.2.1.set ⟨w.heap.size + 1, 2, none⟩ _ (by simp), by rw [hw]; exact HB3.out.2.2.put 2 (.int .u64 q1)⟩
  clear hw HB3 x0 x1 x2 x3 y0 y1 y2 y3 f0 f1 f2 f3
  have x0 := HB4.out.2.1.cell 0
  have x1 := HB4.out.2.1.cell 1
  have x2 := HB4.out.2.1.cell 2
  have x3 := HB4.out.2.1.cell 3
  have y0 := HB4.out.2.2.cell 0
  have y1 := HB4.out.2.2.cell 1
  have y2 := HB4.out.2.2.cell 2
  have y3 := HB4.out.2.2.cell 3
  simp at x0 x1 x2 x3 y0 y1 y2 y3
  have f0 := HB4.out.2.2.froz 0
  have f1 := HB4.out.2.2.froz 1
  have f2 := HB4.out.2.2.froz 2
  have f3 := HB4.out.2.2.froz 3
  go_wp2_with fail
  have RB : Blk (((((w4.setCell ⟨w.heap.size + 1, 3, none⟩ (.int .u64 q0)).setCell ⟨w.heap.size + 1, 0, none⟩ (.int .u64 q3)).setCell ⟨w.heap.size + 1, 1, none⟩ (.int .u64 q2)).setCell ⟨w.heap.size + 1, 2, none⟩ (.int .u64 q1)).setCell ⟨w.heap.size + 1, 3, none⟩ (.int .u64 q0)) (w.heap.size + 1) #[.int .u64 q3, .int .u64 q2, .int .u64 q1, .int .u64 q0] 93 := Blk.set4 (c0 := .int .u64 q3) (c1 := .int .u64 q2) (c2 := .int .u64 q1) (c3 := .int .u64 q0) (HB4.out.2.2.put 3 (.int .u64 q0)) _ _ _ _
  have R0 := RB.cell 0
  have R1 := RB.cell 1
  have R2 := RB.cell 2
  have R3 := RB.cell 3
  simp only [List.getElem?_toArray, List.getElem?_cons_zero, List.getElem?_cons_succ] at R0 R1 R2 R3
  simp [bodyPost, results, Try.results32, go_sem, R0, R1, R2, R3]
  exact ⟨⟨q3, q2, q1, q0, r0, ⟨⟨rfl, rfl, rfl, rfl⟩, rfl⟩, HF.out⟩, ((((HB4.out.1.setCell (p := ⟨w.heap.size + 1, 3, none⟩) (by simp) _).setCell (p := ⟨w.heap.size + 1, 0, none⟩) (by simp) _).setCell (p := ⟨w.heap.size + 1, 1, none⟩) (by simp) _).setCell (p := ⟨w.heap.size + 1, 2, none⟩) (by simp) _).setCell (p := ⟨w.heap.size + 1, 3, none⟩) (by simp) _⟩
end Go.Proofs.Qxb6616476a
