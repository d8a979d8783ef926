import Derived.Test.Qxb6616476aValidB
namespace Go.Proofs.Qxb6616476a
open Go.RowKit

theorem okB_comm (a b c d e f : Int) : okB d e f a b c = okB a b c d e f := by
  unfold okB
  rw [Bool.eq_iff_iff]
  simp only [Bool.and_eq_true, beq_iff_eq]
  constructor <;> (rintro ⟨⟨h1, h2⟩, h3⟩; exact ⟨⟨h1.symm, h2.symm⟩, h3.symm⟩)
theorem okB_refl (a b c : Int) : okB a b c a b c = true := by simp [okB]
theorem keepBox {W w' : World} (hb : Below W.heap.size W w') {A : Nat} {c : Array Value} (hA : A < W.heap.size) (h : ∀ o, W.cell? ⟨A, o, none⟩ = c[o]?) :
    ∀ o, w'.cell? ⟨A, o, none⟩ = c[o]? := fun o => (hb.cell (p := ⟨A, o, none⟩) hA).trans (h o)

set_option maxRecDepth 100000 in
set_option maxHeartbeats 4000000 in
theorem law_yes (l0 l1 l2 l3 c0 c1 c2 q0 q1 q2 q3 q4 q5 m0 m1 m2 m3 r0 r1 r2 : Int) (w : World) :
    Calls Try.prog 5 #[.agg #[.int .u64 l0, .int .u64 l1, .int .u64 l2, .int .u64 l3], .agg #[.int .u64 c0, .int .u64 c1, .int .u64 c2], .agg #[.int .u64 q0, .int .u64 q1, .int .u64 q2, .int .u64 q3, .int .u64 q4, .int .u64 q5], .bool false, .agg #[.int .u64 m0, .int .u64 m1, .int .u64 m2, .int .u64 m3], .agg #[.int .u64 r0, .int .u64 r1, .int .u64 r2]] w fun e w' =>
      e = .returned (.bool true) ∧ Below w.heap.size w w' := by
  have hcomm : okB q3 q4 q5 c0 c1 c2 = okB c0 c1 c2 q3 q4 q5 := okB_comm _ _ _ _ _ _
  have hrefl : okB q3 q4 q5 q3 q4 q5 = true := okB_refl _ _ _
  go_enter Try.func5, Try.ntmps5
  go_wp2_with fail
  refine (verdict_yes l0 l1 l2 l3 c0 c1 c2 q0 q1 q2 q3 q4 q5 _).mono ?_
  rintro e w1 ⟨rfl, hb⟩
  have x0_1 := keepBox hb (A := w.heap.size) (c := #[.int .u64 l0, .int .u64 l1, .int .u64 l2, .int .u64 l3]) (by first | omega | (simp; done) | (simp; omega)) (by intro o; simp [go_sem])
  have x1_1 := keepBox hb (A := w.heap.size + 1) (c := #[.int .u64 c0, .int .u64 c1, .int .u64 c2]) (by first | omega | (simp; done) | (simp; omega)) (by intro o; simp [go_sem])
  have x2_1 := keepBox hb (A := w.heap.size + 1 + 1) (c := #[.int .u64 q0, .int .u64 q1, .int .u64 q2, .int .u64 q3, .int .u64 q4, .int .u64 q5]) (by first | omega | (simp; done) | (simp; omega)) (by intro o; simp [go_sem])
  have x3_1 := keepBox hb (A := w.heap.size + 1 + 1 + 1) (c := #[.int .u64 m0, .int .u64 m1, .int .u64 m2, .int .u64 m3]) (by first | omega | (simp; done) | (simp; omega)) (by intro o; simp [go_sem])
  have x4_1 := keepBox hb (A := w.heap.size + 1 + 1 + 1 + 1) (c := #[.int .u64 r0, .int .u64 r1, .int .u64 r2]) (by first | omega | (simp; done) | (simp; omega)) (by intro o; simp [go_sem])
  have zz := hb.size
  try simp only [World.size_alloc] at zz
  have y0_1 : w.heap.size < w1.heap.size := by omega
  have u0_1 : w.heap.size ≤ w1.heap.size := by omega
  have v0_1 : w.heap.size < w1.heap.size + 1 + 1 := by omega
  have y1_1 : w.heap.size + 1 < w1.heap.size := by omega
  have u1_1 : w.heap.size + 1 ≤ w1.heap.size := by omega
  have v1_1 : w.heap.size + 1 < w1.heap.size + 1 + 1 := by omega
  have y2_1 : w.heap.size + 1 + 1 < w1.heap.size := by omega
  have u2_1 : w.heap.size + 1 + 1 ≤ w1.heap.size := by omega
  have v2_1 : w.heap.size + 1 + 1 < w1.heap.size + 1 + 1 := by omega
  have y3_1 : w.heap.size + 1 + 1 + 1 < w1.heap.size := by omega
  have u3_1 : w.heap.size + 1 + 1 + 1 ≤ w1.heap.size := by omega
  have v3_1 : w.heap.size + 1 + 1 + 1 < w1.heap.size + 1 + 1 := by omega
  have y4_1 : w.heap.size + 1 + 1 + 1 + 1 < w1.heap.size := by omega
  have u4_1 : w.heap.size + 1 + 1 + 1 + 1 ≤ w1.heap.size := by omega
  have v4_1 : w.heap.size + 1 + 1 + 1 + 1 < w1.heap.size + 1 + 1 := by omega
  have bt1 : Below w.heap.size w w1 := bTrans (by repeat (first | exact Below.refl _ _ | refine bAlloc ?_ _)) hb
  clear zz hb
  go_wp2_with fail
  refine (valid_yes l0 l1 l2 l3 c0 c1 c2 q0 q1 q2 q3 q4 q5 _).mono ?_
  rintro e w2 ⟨rfl, hb⟩
  have x0_2 := keepBox hb (A := w.heap.size) (c := #[.int .u64 l0, .int .u64 l1, .int .u64 l2, .int .u64 l3]) (by first | omega | (simp; done) | (simp; omega)) (by intro o; simp [go_sem, *])
  have x1_2 := keepBox hb (A := w.heap.size + 1) (c := #[.int .u64 c0, .int .u64 c1, .int .u64 c2]) (by first | omega | (simp; done) | (simp; omega)) (by intro o; simp [go_sem, *])
  have x2_2 := keepBox hb (A := w.heap.size + 1 + 1) (c := #[.int .u64 q0, .int .u64 q1, .int .u64 q2, .int .u64 q3, .int .u64 q4, .int .u64 q5]) (by first | omega | (simp; done) | (simp; omega)) (by intro o; simp [go_sem, *])
  have x3_2 := keepBox hb (A := w.heap.size + 1 + 1 + 1) (c := #[.int .u64 m0, .int .u64 m1, .int .u64 m2, .int .u64 m3]) (by first | omega | (simp; done) | (simp; omega)) (by intro o; simp [go_sem, *])
  have x4_2 := keepBox hb (A := w.heap.size + 1 + 1 + 1 + 1) (c := #[.int .u64 r0, .int .u64 r1, .int .u64 r2]) (by first | omega | (simp; done) | (simp; omega)) (by intro o; simp [go_sem, *])
  have zz := hb.size
  try simp only [World.size_alloc] at zz
  have y0_2 : w.heap.size < w2.heap.size := by omega
  have u0_2 : w.heap.size ≤ w2.heap.size := by omega
  have v0_2 : w.heap.size < w2.heap.size + 1 + 1 := by omega
  have y1_2 : w.heap.size + 1 < w2.heap.size := by omega
  have u1_2 : w.heap.size + 1 ≤ w2.heap.size := by omega
  have v1_2 : w.heap.size + 1 < w2.heap.size + 1 + 1 := by omega
  have y2_2 : w.heap.size + 1 + 1 < w2.heap.size := by omega
  have u2_2 : w.heap.size + 1 + 1 ≤ w2.heap.size := by omega
  have v2_2 : w.heap.size + 1 + 1 < w2.heap.size + 1 + 1 := by omega
  have y3_2 : w.heap.size + 1 + 1 + 1 < w2.heap.size := by omega
  have u3_2 : w.heap.size + 1 + 1 + 1 ≤ w2.heap.size := by omega
  have v3_2 : w.heap.size + 1 + 1 + 1 < w2.heap.size + 1 + 1 := by omega
  have y4_2 : w.heap.size + 1 + 1 + 1 + 1 < w2.heap.size := by omega
  have u4_2 : w.heap.size + 1 + 1 + 1 + 1 ≤ w2.heap.size := by omega
  have v4_2 : w.heap.size + 1 + 1 + 1 + 1 < w2.heap.size + 1 + 1 := by omega
  have bt2 : Below w.heap.size w w2 := bTrans (by repeat (first | exact bt1 | refine bAlloc ?_ _)) hb
  clear bt1
  clear x0_1 y0_1 u0_1 v0_1 x1_1 y1_1 u1_1 v1_1 x2_1 y2_1 u2_1 v2_1 x3_1 y3_1 u3_1 v3_1 x4_1 y4_1 u4_1 v4_1
  clear zz hb
  go_wp2_with fail
  refine (verdict_yes l0 l1 l2 l3 q3 q4 q5 q0 q1 q2 c0 c1 c2 _).mono ?_
  rintro e w3 ⟨rfl, hb⟩
  have x0_3 := keepBox hb (A := w.heap.size) (c := #[.int .u64 l0, .int .u64 l1, .int .u64 l2, .int .u64 l3]) (by first | omega | (simp; done) | (simp; omega)) (by intro o; simp [go_sem, *])
  have x1_3 := keepBox hb (A := w.heap.size + 1) (c := #[.int .u64 c0, .int .u64 c1, .int .u64 c2]) (by first | omega | (simp; done) | (simp; omega)) (by intro o; simp [go_sem, *])
  have x2_3 := keepBox hb (A := w.heap.size + 1 + 1) (c := #[.int .u64 q0, .int .u64 q1, .int .u64 q2, .int .u64 q3, .int .u64 q4, .int .u64 q5]) (by first | omega | (simp; done) | (simp; omega)) (by intro o; simp [go_sem, *])
  have x3_3 := keepBox hb (A := w.heap.size + 1 + 1 + 1) (c := #[.int .u64 m0, .int .u64 m1, .int .u64 m2, .int .u64 m3]) (by first | omega | (simp; done) | (simp; omega)) (by intro o; simp [go_sem, *])
  have x4_3 := keepBox hb (A := w.heap.size + 1 + 1 + 1 + 1) (c := #[.int .u64 r0, .int .u64 r1, .int .u64 r2]) (by first | omega | (simp; done) | (simp; omega)) (by intro o; simp [go_sem, *])
  have zz := hb.size
  try simp only [World.size_alloc] at zz
  have y0_3 : w.heap.size < w3.heap.size := by omega
  have u0_3 : w.heap.size ≤ w3.heap.size := by omega
  have v0_3 : w.heap.size < w3.heap.size + 1 + 1 := by omega
  have y1_3 : w.heap.size + 1 < w3.heap.size := by omega
  have u1_3 : w.heap.size + 1 ≤ w3.heap.size := by omega
  have v1_3 : w.heap.size + 1 < w3.heap.size + 1 + 1 := by omega
  have y2_3 : w.heap.size + 1 + 1 < w3.heap.size := by omega
  have u2_3 : w.heap.size + 1 + 1 ≤ w3.heap.size := by omega
  have v2_3 : w.heap.size + 1 + 1 < w3.heap.size + 1 + 1 := by omega
  have y3_3 : w.heap.size + 1 + 1 + 1 < w3.heap.size := by omega
  have u3_3 : w.heap.size + 1 + 1 + 1 ≤ w3.heap.size := by omega
  have v3_3 : w.heap.size + 1 + 1 + 1 < w3.heap.size + 1 + 1 := by omega
  have y4_3 : w.heap.size + 1 + 1 + 1 + 1 < w3.heap.size := by omega
  have u4_3 : w.heap.size + 1 + 1 + 1 + 1 ≤ w3.heap.size := by omega
  have v4_3 : w.heap.size + 1 + 1 + 1 + 1 < w3.heap.size + 1 + 1 := by omega
  have bt3 : Below w.heap.size w w3 := bTrans (by repeat (first | exact bt2 | refine bAlloc ?_ _)) hb
  clear bt2
  clear x0_2 y0_2 u0_2 v0_2 x1_2 y1_2 u1_2 v1_2 x2_2 y2_2 u2_2 v2_2 x3_2 y3_2 u3_2 v3_2 x4_2 y4_2 u4_2 v4_2
  clear zz hb
  go_wp2_with fail
  refine (valid_yes l0 l1 l2 l3 q3 q4 q5 q0 q1 q2 c0 c1 c2 _).mono ?_
  rintro e w4 ⟨rfl, hb⟩
  have x0_4 := keepBox hb (A := w.heap.size) (c := #[.int .u64 l0, .int .u64 l1, .int .u64 l2, .int .u64 l3]) (by first | omega | (simp; done) | (simp; omega)) (by intro o; simp [go_sem, *])
  have x1_4 := keepBox hb (A := w.heap.size + 1) (c := #[.int .u64 c0, .int .u64 c1, .int .u64 c2]) (by first | omega | (simp; done) | (simp; omega)) (by intro o; simp [go_sem, *])
  have x2_4 := keepBox hb (A := w.heap.size + 1 + 1) (c := #[.int .u64 q0, .int .u64 q1, .int .u64 q2, .int .u64 q3, .int .u64 q4, .int .u64 q5]) (by first | omega | (simp; done) | (simp; omega)) (by intro o; simp [go_sem, *])
  have x3_4 := keepBox hb (A := w.heap.size + 1 + 1 + 1) (c := #[.int .u64 m0, .int .u64 m1, .int .u64 m2, .int .u64 m3]) (by first | omega | (simp; done) | (simp; omega)) (by intro o; simp [go_sem, *])
  have x4_4 := keepBox hb (A := w.heap.size + 1 + 1 + 1 + 1) (c := #[.int .u64 r0, .int .u64 r1, .int .u64 r2]) (by first | omega | (simp; done) | (simp; omega)) (by intro o; simp [go_sem, *])
  have zz := hb.size
  try simp only [World.size_alloc] at zz
  have y0_4 : w.heap.size < w4.heap.size := by omega
  have u0_4 : w.heap.size ≤ w4.heap.size := by omega
  have v0_4 : w.heap.size < w4.heap.size + 1 + 1 := by omega
  have y1_4 : w.heap.size + 1 < w4.heap.size := by omega
  have u1_4 : w.heap.size + 1 ≤ w4.heap.size := by omega
  have v1_4 : w.heap.size + 1 < w4.heap.size + 1 + 1 := by omega
  have y2_4 : w.heap.size + 1 + 1 < w4.heap.size := by omega
  have u2_4 : w.heap.size + 1 + 1 ≤ w4.heap.size := by omega
  have v2_4 : w.heap.size + 1 + 1 < w4.heap.size + 1 + 1 := by omega
  have y3_4 : w.heap.size + 1 + 1 + 1 < w4.heap.size := by omega
  have u3_4 : w.heap.size + 1 + 1 + 1 ≤ w4.heap.size := by omega
  have v3_4 : w.heap.size + 1 + 1 + 1 < w4.heap.size + 1 + 1 := by omega
  have y4_4 : w.heap.size + 1 + 1 + 1 + 1 < w4.heap.size := by omega
  have u4_4 : w.heap.size + 1 + 1 + 1 + 1 ≤ w4.heap.size := by omega
  have v4_4 : w.heap.size + 1 + 1 + 1 + 1 < w4.heap.size + 1 + 1 := by omega
  have bt4 : Below w.heap.size w w4 := bTrans (by repeat (first | exact bt3 | refine bAlloc ?_ _)) hb
  clear bt3
  clear x0_3 y0_3 u0_3 v0_3 x1_3 y1_3 u1_3 v1_3 x2_3 y2_3 u2_3 v2_3 x3_3 y3_3 u3_3 v3_3 x4_3 y4_3 u4_3 v4_3
  clear zz hb
  go_wp2_with fail
  refine (verdict_yes m0 m1 m2 m3 c0 c1 c2 r0 r1 r2 q3 q4 q5 _).mono ?_
  rintro e w5 ⟨rfl, hb⟩
  have x0_5 := keepBox hb (A := w.heap.size) (c := #[.int .u64 l0, .int .u64 l1, .int .u64 l2, .int .u64 l3]) (by first | omega | (simp; done) | (simp; omega)) (by intro o; simp [go_sem, *])
  have x1_5 := keepBox hb (A := w.heap.size + 1) (c := #[.int .u64 c0, .int .u64 c1, .int .u64 c2]) (by first | omega | (simp; done) | (simp; omega)) (by intro o; simp [go_sem, *])
  have x2_5 := keepBox hb (A := w.heap.size + 1 + 1) (c := #[.int .u64 q0, .int .u64 q1, .int .u64 q2, .int .u64 q3, .int .u64 q4, .int .u64 q5]) (by first | omega | (simp; done) | (simp; omega)) (by intro o; simp [go_sem, *])
  have x3_5 := keepBox hb (A := w.heap.size + 1 + 1 + 1) (c := #[.int .u64 m0, .int .u64 m1, .int .u64 m2, .int .u64 m3]) (by first | omega | (simp; done) | (simp; omega)) (by intro o; simp [go_sem, *])
  have x4_5 := keepBox hb (A := w.heap.size + 1 + 1 + 1 + 1) (c := #[.int .u64 r0, .int .u64 r1, .int .u64 r2]) (by first | omega | (simp; done) | (simp; omega)) (by intro o; simp [go_sem, *])
  have zz := hb.size
  try simp only [World.size_alloc] at zz
  have y0_5 : w.heap.size < w5.heap.size := by omega
  have u0_5 : w.heap.size ≤ w5.heap.size := by omega
  have v0_5 : w.heap.size < w5.heap.size + 1 + 1 := by omega
  have y1_5 : w.heap.size + 1 < w5.heap.size := by omega
  have u1_5 : w.heap.size + 1 ≤ w5.heap.size := by omega
  have v1_5 : w.heap.size + 1 < w5.heap.size + 1 + 1 := by omega
  have y2_5 : w.heap.size + 1 + 1 < w5.heap.size := by omega
  have u2_5 : w.heap.size + 1 + 1 ≤ w5.heap.size := by omega
  have v2_5 : w.heap.size + 1 + 1 < w5.heap.size + 1 + 1 := by omega
  have y3_5 : w.heap.size + 1 + 1 + 1 < w5.heap.size := by omega
  have u3_5 : w.heap.size + 1 + 1 + 1 ≤ w5.heap.size := by omega
  have v3_5 : w.heap.size + 1 + 1 + 1 < w5.heap.size + 1 + 1 := by omega
  have y4_5 : w.heap.size + 1 + 1 + 1 + 1 < w5.heap.size := by omega
  have u4_5 : w.heap.size + 1 + 1 + 1 + 1 ≤ w5.heap.size := by omega
  have v4_5 : w.heap.size + 1 + 1 + 1 + 1 < w5.heap.size + 1 + 1 := by omega
  have bt5 : Below w.heap.size w w5 := bTrans (by repeat (first | exact bt4 | refine bAlloc ?_ _)) hb
  clear bt4
  clear x0_4 y0_4 u0_4 v0_4 x1_4 y1_4 u1_4 v1_4 x2_4 y2_4 u2_4 v2_4 x3_4 y3_4 u3_4 v3_4 x4_4 y4_4 u4_4 v4_4
  clear zz hb
  go_wp2_with fail
  refine (valid_yes m0 m1 m2 m3 c0 c1 c2 r0 r1 r2 q3 q4 q5 _).mono ?_
  rintro e w6 ⟨rfl, hb⟩
  have x0_6 := keepBox hb (A := w.heap.size) (c := #[.int .u64 l0, .int .u64 l1, .int .u64 l2, .int .u64 l3]) (by first | omega | (simp; done) | (simp; omega)) (by intro o; simp [go_sem, *])
  have x1_6 := keepBox hb (A := w.heap.size + 1) (c := #[.int .u64 c0, .int .u64 c1, .int .u64 c2]) (by first | omega | (simp; done) | (simp; omega)) (by intro o; simp [go_sem, *])
  have x2_6 := keepBox hb (A := w.heap.size + 1 + 1) (c := #[.int .u64 q0, .int .u64 q1, .int .u64 q2, .int .u64 q3, .int .u64 q4, .int .u64 q5]) (by first | omega | (simp; done) | (simp; omega)) (by intro o; simp [go_sem, *])
  have x3_6 := keepBox hb (A := w.heap.size + 1 + 1 + 1) (c := #[.int .u64 m0, .int .u64 m1, .int .u64 m2, .int .u64 m3]) (by first | omega | (simp; done) | (simp; omega)) (by intro o; simp [go_sem, *])
  have x4_6 := keepBox hb (A := w.heap.size + 1 + 1 + 1 + 1) (c := #[.int .u64 r0, .int .u64 r1, .int .u64 r2]) (by first | omega | (simp; done) | (simp; omega)) (by intro o; simp [go_sem, *])
  have zz := hb.size
  try simp only [World.size_alloc] at zz
  have y0_6 : w.heap.size < w6.heap.size := by omega
  have u0_6 : w.heap.size ≤ w6.heap.size := by omega
  have v0_6 : w.heap.size < w6.heap.size + 1 + 1 := by omega
  have y1_6 : w.heap.size + 1 < w6.heap.size := by omega
  have u1_6 : w.heap.size + 1 ≤ w6.heap.size := by omega
  have v1_6 : w.heap.size + 1 < w6.heap.size + 1 + 1 := by omega
  have y2_6 : w.heap.size + 1 + 1 < w6.heap.size := by omega
  have u2_6 : w.heap.size + 1 + 1 ≤ w6.heap.size := by omega
  have v2_6 : w.heap.size + 1 + 1 < w6.heap.size + 1 + 1 := by omega
  have y3_6 : w.heap.size + 1 + 1 + 1 < w6.heap.size := by omega
  have u3_6 : w.heap.size + 1 + 1 + 1 ≤ w6.heap.size := by omega
  have v3_6 : w.heap.size + 1 + 1 + 1 < w6.heap.size + 1 + 1 := by omega
  have y4_6 : w.heap.size + 1 + 1 + 1 + 1 < w6.heap.size := by omega
  have u4_6 : w.heap.size + 1 + 1 + 1 + 1 ≤ w6.heap.size := by omega
  have v4_6 : w.heap.size + 1 + 1 + 1 + 1 < w6.heap.size + 1 + 1 := by omega
  have bt6 : Below w.heap.size w w6 := bTrans (by repeat (first | exact bt5 | refine bAlloc ?_ _)) hb
  clear bt5
  clear x0_5 y0_5 u0_5 v0_5 x1_5 y1_5 u1_5 v1_5 x2_5 y2_5 u2_5 v2_5 x3_5 y3_5 u3_5 v3_5 x4_5 y4_5 u4_5 v4_5
  clear zz hb
  go_wp2_with fail
  refine (verdict_no l0 l1 l2 l3 q3 q4 q5 q0 q1 q2 q3 q4 q5 _).mono ?_
  rintro e w7 ⟨⟨t, v, rfl⟩, hb⟩
  have x0_7 := keepBox hb (A := w.heap.size) (c := #[.int .u64 l0, .int .u64 l1, .int .u64 l2, .int .u64 l3]) (by first | omega | (simp; done) | (simp; omega)) (by intro o; simp [go_sem, *])
  have x1_7 := keepBox hb (A := w.heap.size + 1) (c := #[.int .u64 c0, .int .u64 c1, .int .u64 c2]) (by first | omega | (simp; done) | (simp; omega)) (by intro o; simp [go_sem, *])
  have x2_7 := keepBox hb (A := w.heap.size + 1 + 1) (c := #[.int .u64 q0, .int .u64 q1, .int .u64 q2, .int .u64 q3, .int .u64 q4, .int .u64 q5]) (by first | omega | (simp; done) | (simp; omega)) (by intro o; simp [go_sem, *])
  have x3_7 := keepBox hb (A := w.heap.size + 1 + 1 + 1) (c := #[.int .u64 m0, .int .u64 m1, .int .u64 m2, .int .u64 m3]) (by first | omega | (simp; done) | (simp; omega)) (by intro o; simp [go_sem, *])
  have x4_7 := keepBox hb (A := w.heap.size + 1 + 1 + 1 + 1) (c := #[.int .u64 r0, .int .u64 r1, .int .u64 r2]) (by first | omega | (simp; done) | (simp; omega)) (by intro o; simp [go_sem, *])
  have x5_7 := keepBox hb (A := w6.heap.size) (c := #[.int .u64 q3, .int .u64 q4, .int .u64 q5]) (by first | omega | (simp; done) | (simp; omega)) (by intro o; simp [go_sem, *])
  have zz := hb.size
  try simp only [World.size_alloc] at zz
  have y0_7 : w.heap.size < w7.heap.size := by omega
  have u0_7 : w.heap.size ≤ w7.heap.size := by omega
  have v0_7 : w.heap.size < w7.heap.size + 1 + 1 := by omega
  have y1_7 : w.heap.size + 1 < w7.heap.size := by omega
  have u1_7 : w.heap.size + 1 ≤ w7.heap.size := by omega
  have v1_7 : w.heap.size + 1 < w7.heap.size + 1 + 1 := by omega
  have y2_7 : w.heap.size + 1 + 1 < w7.heap.size := by omega
  have u2_7 : w.heap.size + 1 + 1 ≤ w7.heap.size := by omega
  have v2_7 : w.heap.size + 1 + 1 < w7.heap.size + 1 + 1 := by omega
  have y3_7 : w.heap.size + 1 + 1 + 1 < w7.heap.size := by omega
  have u3_7 : w.heap.size + 1 + 1 + 1 ≤ w7.heap.size := by omega
  have v3_7 : w.heap.size + 1 + 1 + 1 < w7.heap.size + 1 + 1 := by omega
  have y4_7 : w.heap.size + 1 + 1 + 1 + 1 < w7.heap.size := by omega
  have u4_7 : w.heap.size + 1 + 1 + 1 + 1 ≤ w7.heap.size := by omega
  have v4_7 : w.heap.size + 1 + 1 + 1 + 1 < w7.heap.size + 1 + 1 := by omega
  have y5_7 : w6.heap.size < w7.heap.size := by omega
  have u5_7 : w6.heap.size ≤ w7.heap.size := by omega
  have v5_7 : w6.heap.size < w7.heap.size + 1 + 1 := by omega
  have bt7 : Below w.heap.size w w7 := bTrans (by repeat (first | exact bt6 | refine bAlloc ?_ _)) hb
  clear bt6
  clear x0_6 y0_6 u0_6 v0_6 x1_6 y1_6 u1_6 v1_6 x2_6 y2_6 u2_6 v2_6 x3_6 y3_6 u3_6 v3_6 x4_6 y4_6 u4_6 v4_6
  clear zz hb
  go_wp2_with fail
  refine (valid_no l0 l1 l2 l3 q3 q4 q5 q0 q1 q2 q3 q4 q5 t v _).mono ?_
  rintro e w8 ⟨rfl, hb⟩
  have x0_8 := keepBox hb (A := w.heap.size) (c := #[.int .u64 l0, .int .u64 l1, .int .u64 l2, .int .u64 l3]) (by first | omega | (simp; done) | (simp; omega)) (by intro o; simp [go_sem, *])
  have x1_8 := keepBox hb (A := w.heap.size + 1) (c := #[.int .u64 c0, .int .u64 c1, .int .u64 c2]) (by first | omega | (simp; done) | (simp; omega)) (by intro o; simp [go_sem, *])
  have x2_8 := keepBox hb (A := w.heap.size + 1 + 1) (c := #[.int .u64 q0, .int .u64 q1, .int .u64 q2, .int .u64 q3, .int .u64 q4, .int .u64 q5]) (by first | omega | (simp; done) | (simp; omega)) (by intro o; simp [go_sem, *])
  have x3_8 := keepBox hb (A := w.heap.size + 1 + 1 + 1) (c := #[.int .u64 m0, .int .u64 m1, .int .u64 m2, .int .u64 m3]) (by first | omega | (simp; done) | (simp; omega)) (by intro o; simp [go_sem, *])
  have x4_8 := keepBox hb (A := w.heap.size + 1 + 1 + 1 + 1) (c := #[.int .u64 r0, .int .u64 r1, .int .u64 r2]) (by first | omega | (simp; done) | (simp; omega)) (by intro o; simp [go_sem, *])
  have x5_8 := keepBox hb (A := w6.heap.size) (c := #[.int .u64 q3, .int .u64 q4, .int .u64 q5]) (by first | omega | (simp; done) | (simp; omega)) (by intro o; simp [go_sem, *])
  have zz := hb.size
  try simp only [World.size_alloc] at zz
  have y0_8 : w.heap.size < w8.heap.size := by omega
  have u0_8 : w.heap.size ≤ w8.heap.size := by omega
  have v0_8 : w.heap.size < w8.heap.size + 1 + 1 := by omega
  have y1_8 : w.heap.size + 1 < w8.heap.size := by omega
  have u1_8 : w.heap.size + 1 ≤ w8.heap.size := by omega
  have v1_8 : w.heap.size + 1 < w8.heap.size + 1 + 1 := by omega
  have y2_8 : w.heap.size + 1 + 1 < w8.heap.size := by omega
  have u2_8 : w.heap.size + 1 + 1 ≤ w8.heap.size := by omega
  have v2_8 : w.heap.size + 1 + 1 < w8.heap.size + 1 + 1 := by omega
  have y3_8 : w.heap.size + 1 + 1 + 1 < w8.heap.size := by omega
  have u3_8 : w.heap.size + 1 + 1 + 1 ≤ w8.heap.size := by omega
  have v3_8 : w.heap.size + 1 + 1 + 1 < w8.heap.size + 1 + 1 := by omega
  have y4_8 : w.heap.size + 1 + 1 + 1 + 1 < w8.heap.size := by omega
  have u4_8 : w.heap.size + 1 + 1 + 1 + 1 ≤ w8.heap.size := by omega
  have v4_8 : w.heap.size + 1 + 1 + 1 + 1 < w8.heap.size + 1 + 1 := by omega
  have y5_8 : w6.heap.size < w8.heap.size := by omega
  have u5_8 : w6.heap.size ≤ w8.heap.size := by omega
  have v5_8 : w6.heap.size < w8.heap.size + 1 + 1 := by omega
  have bt8 : Below w.heap.size w w8 := bTrans (by repeat (first | exact bt7 | refine bAlloc ?_ _)) hb
  clear bt7
  clear x0_7 y0_7 u0_7 v0_7 x1_7 y1_7 u1_7 v1_7 x2_7 y2_7 u2_7 v2_7 x3_7 y3_7 u3_7 v3_7 x4_7 y4_7 u4_7 v4_7 x5_7 y5_7 u5_7 v5_7
  clear zz hb
  go_wp2_with fail
  refine (verdict_yes l0 l1 l2 l3 q3 q4 q5 q0 q1 q2 q3 q4 q5 _).mono ?_
  rintro e w9 ⟨rfl, hb⟩
  have x0_9 := keepBox hb (A := w.heap.size) (c := #[.int .u64 l0, .int .u64 l1, .int .u64 l2, .int .u64 l3]) (by first | omega | (simp; done) | (simp; omega)) (by intro o; simp [go_sem, *])
  have x1_9 := keepBox hb (A := w.heap.size + 1) (c := #[.int .u64 c0, .int .u64 c1, .int .u64 c2]) (by first | omega | (simp; done) | (simp; omega)) (by intro o; simp [go_sem, *])
  have x2_9 := keepBox hb (A := w.heap.size + 1 + 1) (c := #[.int .u64 q0, .int .u64 q1, .int .u64 q2, .int .u64 q3, .int .u64 q4, .int .u64 q5]) (by first | omega | (simp; done) | (simp; omega)) (by intro o; simp [go_sem, *])
  have x3_9 := keepBox hb (A := w.heap.size + 1 + 1 + 1) (c := #[.int .u64 m0, .int .u64 m1, .int .u64 m2, .int .u64 m3]) (by first | omega | (simp; done) | (simp; omega)) (by intro o; simp [go_sem, *])
  have x4_9 := keepBox hb (A := w.heap.size + 1 + 1 + 1 + 1) (c := #[.int .u64 r0, .int .u64 r1, .int .u64 r2]) (by first | omega | (simp; done) | (simp; omega)) (by intro o; simp [go_sem, *])
  have x5_9 := keepBox hb (A := w6.heap.size) (c := #[.int .u64 q3, .int .u64 q4, .int .u64 q5]) (by first | omega | (simp; done) | (simp; omega)) (by intro o; simp [go_sem, *])
  have zz := hb.size
  try simp only [World.size_alloc] at zz
  have y0_9 : w.heap.size < w9.heap.size := by omega
  have u0_9 : w.heap.size ≤ w9.heap.size := by omega
  have v0_9 : w.heap.size < w9.heap.size + 1 + 1 := by omega
  have y1_9 : w.heap.size + 1 < w9.heap.size := by omega
  have u1_9 : w.heap.size + 1 ≤ w9.heap.size := by omega
  have v1_9 : w.heap.size + 1 < w9.heap.size + 1 + 1 := by omega
  have y2_9 : w.heap.size + 1 + 1 < w9.heap.size := by omega
  have u2_9 : w.heap.size + 1 + 1 ≤ w9.heap.size := by omega
  have v2_9 : w.heap.size + 1 + 1 < w9.heap.size + 1 + 1 := by omega
  have y3_9 : w.heap.size + 1 + 1 + 1 < w9.heap.size := by omega
  have u3_9 : w.heap.size + 1 + 1 + 1 ≤ w9.heap.size := by omega
  have v3_9 : w.heap.size + 1 + 1 + 1 < w9.heap.size + 1 + 1 := by omega
  have y4_9 : w.heap.size + 1 + 1 + 1 + 1 < w9.heap.size := by omega
  have u4_9 : w.heap.size + 1 + 1 + 1 + 1 ≤ w9.heap.size := by omega
  have v4_9 : w.heap.size + 1 + 1 + 1 + 1 < w9.heap.size + 1 + 1 := by omega
  have y5_9 : w6.heap.size < w9.heap.size := by omega
  have u5_9 : w6.heap.size ≤ w9.heap.size := by omega
  have v5_9 : w6.heap.size < w9.heap.size + 1 + 1 := by omega
  have bt9 : Below w.heap.size w w9 := bTrans (by repeat (first | exact bt8 | refine bAlloc ?_ _)) hb
  clear bt8
  clear x0_8 y0_8 u0_8 v0_8 x1_8 y1_8 u1_8 v1_8 x2_8 y2_8 u2_8 v2_8 x3_8 y3_8 u3_8 v3_8 x4_8 y4_8 u4_8 v4_8 x5_8 y5_8 u5_8 v5_8
  clear zz hb
  go_wp2_with fail
  refine (valid_yes l0 l1 l2 l3 q3 q4 q5 q0 q1 q2 q3 q4 q5 _).mono ?_
  rintro e w10 ⟨rfl, hb⟩
  have x0_10 := keepBox hb (A := w.heap.size) (c := #[.int .u64 l0, .int .u64 l1, .int .u64 l2, .int .u64 l3]) (by first | omega | (simp; done) | (simp; omega)) (by intro o; simp [go_sem, *])
  have x1_10 := keepBox hb (A := w.heap.size + 1) (c := #[.int .u64 c0, .int .u64 c1, .int .u64 c2]) (by first | omega | (simp; done) | (simp; omega)) (by intro o; simp [go_sem, *])
  have x2_10 := keepBox hb (A := w.heap.size + 1 + 1) (c := #[.int .u64 q0, .int .u64 q1, .int .u64 q2, .int .u64 q3, .int .u64 q4, .int .u64 q5]) (by first | omega | (simp; done) | (simp; omega)) (by intro o; simp [go_sem, *])
  have x3_10 := keepBox hb (A := w.heap.size + 1 + 1 + 1) (c := #[.int .u64 m0, .int .u64 m1, .int .u64 m2, .int .u64 m3]) (by first | omega | (simp; done) | (simp; omega)) (by intro o; simp [go_sem, *])
  have x4_10 := keepBox hb (A := w.heap.size + 1 + 1 + 1 + 1) (c := #[.int .u64 r0, .int .u64 r1, .int .u64 r2]) (by first | omega | (simp; done) | (simp; omega)) (by intro o; simp [go_sem, *])
  have x5_10 := keepBox hb (A := w6.heap.size) (c := #[.int .u64 q3, .int .u64 q4, .int .u64 q5]) (by first | omega | (simp; done) | (simp; omega)) (by intro o; simp [go_sem, *])
  have zz := hb.size
  try simp only [World.size_alloc] at zz
  have y0_10 : w.heap.size < w10.heap.size := by omega
  have u0_10 : w.heap.size ≤ w10.heap.size := by omega
  have v0_10 : w.heap.size < w10.heap.size + 1 + 1 := by omega
  have y1_10 : w.heap.size + 1 < w10.heap.size := by omega
  have u1_10 : w.heap.size + 1 ≤ w10.heap.size := by omega
  have v1_10 : w.heap.size + 1 < w10.heap.size + 1 + 1 := by omega
  have y2_10 : w.heap.size + 1 + 1 < w10.heap.size := by omega
  have u2_10 : w.heap.size + 1 + 1 ≤ w10.heap.size := by omega
  have v2_10 : w.heap.size + 1 + 1 < w10.heap.size + 1 + 1 := by omega
  have y3_10 : w.heap.size + 1 + 1 + 1 < w10.heap.size := by omega
  have u3_10 : w.heap.size + 1 + 1 + 1 ≤ w10.heap.size := by omega
  have v3_10 : w.heap.size + 1 + 1 + 1 < w10.heap.size + 1 + 1 := by omega
  have y4_10 : w.heap.size + 1 + 1 + 1 + 1 < w10.heap.size := by omega
  have u4_10 : w.heap.size + 1 + 1 + 1 + 1 ≤ w10.heap.size := by omega
  have v4_10 : w.heap.size + 1 + 1 + 1 + 1 < w10.heap.size + 1 + 1 := by omega
  have y5_10 : w6.heap.size < w10.heap.size := by omega
  have u5_10 : w6.heap.size ≤ w10.heap.size := by omega
  have v5_10 : w6.heap.size < w10.heap.size + 1 + 1 := by omega
  have bt10 : Below w.heap.size w w10 := bTrans (by repeat (first | exact bt9 | refine bAlloc ?_ _)) hb
  clear bt9
  clear x0_9 y0_9 u0_9 v0_9 x1_9 y1_9 u1_9 v1_9 x2_9 y2_9 u2_9 v2_9 x3_9 y3_9 u3_9 v3_9 x4_9 y4_9 u4_9 v4_9 x5_9 y5_9 u5_9 v5_9
  clear zz hb
  go_wp2
  all_goals (go_ret; exact ⟨by simp, bt10⟩)

set_option maxRecDepth 100000 in
set_option maxHeartbeats 4000000 in
theorem law_no (l0 l1 l2 l3 c0 c1 c2 q0 q1 q2 q3 q4 q5 m0 m1 m2 m3 r0 r1 r2 : Int) (w : World) :
    Calls Try.prog 5 #[.agg #[.int .u64 l0, .int .u64 l1, .int .u64 l2, .int .u64 l3], .agg #[.int .u64 c0, .int .u64 c1, .int .u64 c2], .agg #[.int .u64 q0, .int .u64 q1, .int .u64 q2, .int .u64 q3, .int .u64 q4, .int .u64 q5], .bool true, .agg #[.int .u64 m0, .int .u64 m1, .int .u64 m2, .int .u64 m3], .agg #[.int .u64 r0, .int .u64 r1, .int .u64 r2]] w fun e w' =>
      e = .returned (.bool true) ∧ Below w.heap.size w w' := by
  have hcomm : okB q3 q4 q5 c0 c1 c2 = okB c0 c1 c2 q3 q4 q5 := okB_comm _ _ _ _ _ _
  have hrefl : okB q3 q4 q5 q3 q4 q5 = true := okB_refl _ _ _
  go_enter Try.func5, Try.ntmps5
  go_wp2_with fail
  refine (verdict_no l0 l1 l2 l3 c0 c1 c2 q0 q1 q2 q3 q4 q5 _).mono ?_
  rintro e w1 ⟨⟨t, v, rfl⟩, hb⟩
  have x0_1 := keepBox hb (A := w.heap.size) (c := #[.int .u64 l0, .int .u64 l1, .int .u64 l2, .int .u64 l3]) (by first | omega | (simp; done) | (simp; omega)) (by intro o; simp [go_sem])
  have x1_1 := keepBox hb (A := w.heap.size + 1) (c := #[.int .u64 c0, .int .u64 c1, .int .u64 c2]) (by first | omega | (simp; done) | (simp; omega)) (by intro o; simp [go_sem])
  have x2_1 := keepBox hb (A := w.heap.size + 1 + 1) (c := #[.int .u64 q0, .int .u64 q1, .int .u64 q2, .int .u64 q3, .int .u64 q4, .int .u64 q5]) (by first | omega | (simp; done) | (simp; omega)) (by intro o; simp [go_sem])
  have x3_1 := keepBox hb (A := w.heap.size + 1 + 1 + 1) (c := #[.int .u64 m0, .int .u64 m1, .int .u64 m2, .int .u64 m3]) (by first | omega | (simp; done) | (simp; omega)) (by intro o; simp [go_sem])
  have x4_1 := keepBox hb (A := w.heap.size + 1 + 1 + 1 + 1) (c := #[.int .u64 r0, .int .u64 r1, .int .u64 r2]) (by first | omega | (simp; done) | (simp; omega)) (by intro o; simp [go_sem])
  have zz := hb.size
  try simp only [World.size_alloc] at zz
  have y0_1 : w.heap.size < w1.heap.size := by omega
  have u0_1 : w.heap.size ≤ w1.heap.size := by omega
  have v0_1 : w.heap.size < w1.heap.size + 1 + 1 := by omega
  have y1_1 : w.heap.size + 1 < w1.heap.size := by omega
  have u1_1 : w.heap.size + 1 ≤ w1.heap.size := by omega
  have v1_1 : w.heap.size + 1 < w1.heap.size + 1 + 1 := by omega
  have y2_1 : w.heap.size + 1 + 1 < w1.heap.size := by omega
  have u2_1 : w.heap.size + 1 + 1 ≤ w1.heap.size := by omega
  have v2_1 : w.heap.size + 1 + 1 < w1.heap.size + 1 + 1 := by omega
  have y3_1 : w.heap.size + 1 + 1 + 1 < w1.heap.size := by omega
  have u3_1 : w.heap.size + 1 + 1 + 1 ≤ w1.heap.size := by omega
  have v3_1 : w.heap.size + 1 + 1 + 1 < w1.heap.size + 1 + 1 := by omega
  have y4_1 : w.heap.size + 1 + 1 + 1 + 1 < w1.heap.size := by omega
  have u4_1 : w.heap.size + 1 + 1 + 1 + 1 ≤ w1.heap.size := by omega
  have v4_1 : w.heap.size + 1 + 1 + 1 + 1 < w1.heap.size + 1 + 1 := by omega
  have bt1 : Below w.heap.size w w1 := bTrans (by repeat (first | exact Below.refl _ _ | refine bAlloc ?_ _)) hb
  clear zz hb
  go_wp2_with fail
  refine (valid_no l0 l1 l2 l3 c0 c1 c2 q0 q1 q2 q3 q4 q5 t v _).mono ?_
  rintro e w2 ⟨rfl, hb⟩
  have x0_2 := keepBox hb (A := w.heap.size) (c := #[.int .u64 l0, .int .u64 l1, .int .u64 l2, .int .u64 l3]) (by first | omega | (simp; done) | (simp; omega)) (by intro o; simp [go_sem, *])
  have x1_2 := keepBox hb (A := w.heap.size + 1) (c := #[.int .u64 c0, .int .u64 c1, .int .u64 c2]) (by first | omega | (simp; done) | (simp; omega)) (by intro o; simp [go_sem, *])
  have x2_2 := keepBox hb (A := w.heap.size + 1 + 1) (c := #[.int .u64 q0, .int .u64 q1, .int .u64 q2, .int .u64 q3, .int .u64 q4, .int .u64 q5]) (by first | omega | (simp; done) | (simp; omega)) (by intro o; simp [go_sem, *])
  have x3_2 := keepBox hb (A := w.heap.size + 1 + 1 + 1) (c := #[.int .u64 m0, .int .u64 m1, .int .u64 m2, .int .u64 m3]) (by first | omega | (simp; done) | (simp; omega)) (by intro o; simp [go_sem, *])
  have x4_2 := keepBox hb (A := w.heap.size + 1 + 1 + 1 + 1) (c := #[.int .u64 r0, .int .u64 r1, .int .u64 r2]) (by first | omega | (simp; done) | (simp; omega)) (by intro o; simp [go_sem, *])
  have zz := hb.size
  try simp only [World.size_alloc] at zz
  have y0_2 : w.heap.size < w2.heap.size := by omega
  have u0_2 : w.heap.size ≤ w2.heap.size := by omega
  have v0_2 : w.heap.size < w2.heap.size + 1 + 1 := by omega
  have y1_2 : w.heap.size + 1 < w2.heap.size := by omega
  have u1_2 : w.heap.size + 1 ≤ w2.heap.size := by omega
  have v1_2 : w.heap.size + 1 < w2.heap.size + 1 + 1 := by omega
  have y2_2 : w.heap.size + 1 + 1 < w2.heap.size := by omega
  have u2_2 : w.heap.size + 1 + 1 ≤ w2.heap.size := by omega
  have v2_2 : w.heap.size + 1 + 1 < w2.heap.size + 1 + 1 := by omega
  have y3_2 : w.heap.size + 1 + 1 + 1 < w2.heap.size := by omega
  have u3_2 : w.heap.size + 1 + 1 + 1 ≤ w2.heap.size := by omega
  have v3_2 : w.heap.size + 1 + 1 + 1 < w2.heap.size + 1 + 1 := by omega
  have y4_2 : w.heap.size + 1 + 1 + 1 + 1 < w2.heap.size := by omega
  have u4_2 : w.heap.size + 1 + 1 + 1 + 1 ≤ w2.heap.size := by omega
  have v4_2 : w.heap.size + 1 + 1 + 1 + 1 < w2.heap.size + 1 + 1 := by omega
  have bt2 : Below w.heap.size w w2 := bTrans (by repeat (first | exact bt1 | refine bAlloc ?_ _)) hb
  clear bt1
  clear x0_1 y0_1 u0_1 v0_1 x1_1 y1_1 u1_1 v1_1 x2_1 y2_1 u2_1 v2_1 x3_1 y3_1 u3_1 v3_1 x4_1 y4_1 u4_1 v4_1
  clear zz hb
  go_wp2_with fail
  refine (verdict_no l0 l1 l2 l3 q3 q4 q5 q0 q1 q2 c0 c1 c2 _).mono ?_
  rintro e w3 ⟨⟨t, v, rfl⟩, hb⟩
  have x0_3 := keepBox hb (A := w.heap.size) (c := #[.int .u64 l0, .int .u64 l1, .int .u64 l2, .int .u64 l3]) (by first | omega | (simp; done) | (simp; omega)) (by intro o; simp [go_sem, *])
  have x1_3 := keepBox hb (A := w.heap.size + 1) (c := #[.int .u64 c0, .int .u64 c1, .int .u64 c2]) (by first | omega | (simp; done) | (simp; omega)) (by intro o; simp [go_sem, *])
  have x2_3 := keepBox hb (A := w.heap.size + 1 + 1) (c := #[.int .u64 q0, .int .u64 q1, .int .u64 q2, .int .u64 q3, .int .u64 q4, .int .u64 q5]) (by first | omega | (simp; done) | (simp; omega)) (by intro o; simp [go_sem, *])
  have x3_3 := keepBox hb (A := w.heap.size + 1 + 1 + 1) (c := #[.int .u64 m0, .int .u64 m1, .int .u64 m2, .int .u64 m3]) (by first | omega | (simp; done) | (simp; omega)) (by intro o; simp [go_sem, *])
  have x4_3 := keepBox hb (A := w.heap.size + 1 + 1 + 1 + 1) (c := #[.int .u64 r0, .int .u64 r1, .int .u64 r2]) (by first | omega | (simp; done) | (simp; omega)) (by intro o; simp [go_sem, *])
  have zz := hb.size
  try simp only [World.size_alloc] at zz
  have y0_3 : w.heap.size < w3.heap.size := by omega
  have u0_3 : w.heap.size ≤ w3.heap.size := by omega
  have v0_3 : w.heap.size < w3.heap.size + 1 + 1 := by omega
  have y1_3 : w.heap.size + 1 < w3.heap.size := by omega
  have u1_3 : w.heap.size + 1 ≤ w3.heap.size := by omega
  have v1_3 : w.heap.size + 1 < w3.heap.size + 1 + 1 := by omega
  have y2_3 : w.heap.size + 1 + 1 < w3.heap.size := by omega
  have u2_3 : w.heap.size + 1 + 1 ≤ w3.heap.size := by omega
  have v2_3 : w.heap.size + 1 + 1 < w3.heap.size + 1 + 1 := by omega
  have y3_3 : w.heap.size + 1 + 1 + 1 < w3.heap.size := by omega
  have u3_3 : w.heap.size + 1 + 1 + 1 ≤ w3.heap.size := by omega
  have v3_3 : w.heap.size + 1 + 1 + 1 < w3.heap.size + 1 + 1 := by omega
  have y4_3 : w.heap.size + 1 + 1 + 1 + 1 < w3.heap.size := by omega
  have u4_3 : w.heap.size + 1 + 1 + 1 + 1 ≤ w3.heap.size := by omega
  have v4_3 : w.heap.size + 1 + 1 + 1 + 1 < w3.heap.size + 1 + 1 := by omega
  have bt3 : Below w.heap.size w w3 := bTrans (by repeat (first | exact bt2 | refine bAlloc ?_ _)) hb
  clear bt2
  clear x0_2 y0_2 u0_2 v0_2 x1_2 y1_2 u1_2 v1_2 x2_2 y2_2 u2_2 v2_2 x3_2 y3_2 u3_2 v3_2 x4_2 y4_2 u4_2 v4_2
  clear zz hb
  go_wp2_with fail
  refine (valid_no l0 l1 l2 l3 q3 q4 q5 q0 q1 q2 c0 c1 c2 t v _).mono ?_
  rintro e w4 ⟨rfl, hb⟩
  have x0_4 := keepBox hb (A := w.heap.size) (c := #[.int .u64 l0, .int .u64 l1, .int .u64 l2, .int .u64 l3]) (by first | omega | (simp; done) | (simp; omega)) (by intro o; simp [go_sem, *])
  have x1_4 := keepBox hb (A := w.heap.size + 1) (c := #[.int .u64 c0, .int .u64 c1, .int .u64 c2]) (by first | omega | (simp; done) | (simp; omega)) (by intro o; simp [go_sem, *])
  have x2_4 := keepBox hb (A := w.heap.size + 1 + 1) (c := #[.int .u64 q0, .int .u64 q1, .int .u64 q2, .int .u64 q3, .int .u64 q4, .int .u64 q5]) (by first | omega | (simp; done) | (simp; omega)) (by intro o; simp [go_sem, *])
  have x3_4 := keepBox hb (A := w.heap.size + 1 + 1 + 1) (c := #[.int .u64 m0, .int .u64 m1, .int .u64 m2, .int .u64 m3]) (by first | omega | (simp; done) | (simp; omega)) (by intro o; simp [go_sem, *])
  have x4_4 := keepBox hb (A := w.heap.size + 1 + 1 + 1 + 1) (c := #[.int .u64 r0, .int .u64 r1, .int .u64 r2]) (by first | omega | (simp; done) | (simp; omega)) (by intro o; simp [go_sem, *])
  have zz := hb.size
  try simp only [World.size_alloc] at zz
  have y0_4 : w.heap.size < w4.heap.size := by omega
  have u0_4 : w.heap.size ≤ w4.heap.size := by omega
  have v0_4 : w.heap.size < w4.heap.size + 1 + 1 := by omega
  have y1_4 : w.heap.size + 1 < w4.heap.size := by omega
  have u1_4 : w.heap.size + 1 ≤ w4.heap.size := by omega
  have v1_4 : w.heap.size + 1 < w4.heap.size + 1 + 1 := by omega
  have y2_4 : w.heap.size + 1 + 1 < w4.heap.size := by omega
  have u2_4 : w.heap.size + 1 + 1 ≤ w4.heap.size := by omega
  have v2_4 : w.heap.size + 1 + 1 < w4.heap.size + 1 + 1 := by omega
  have y3_4 : w.heap.size + 1 + 1 + 1 < w4.heap.size := by omega
  have u3_4 : w.heap.size + 1 + 1 + 1 ≤ w4.heap.size := by omega
  have v3_4 : w.heap.size + 1 + 1 + 1 < w4.heap.size + 1 + 1 := by omega
  have y4_4 : w.heap.size + 1 + 1 + 1 + 1 < w4.heap.size := by omega
  have u4_4 : w.heap.size + 1 + 1 + 1 + 1 ≤ w4.heap.size := by omega
  have v4_4 : w.heap.size + 1 + 1 + 1 + 1 < w4.heap.size + 1 + 1 := by omega
  have bt4 : Below w.heap.size w w4 := bTrans (by repeat (first | exact bt3 | refine bAlloc ?_ _)) hb
  clear bt3
  clear x0_3 y0_3 u0_3 v0_3 x1_3 y1_3 u1_3 v1_3 x2_3 y2_3 u2_3 v2_3 x3_3 y3_3 u3_3 v3_3 x4_3 y4_3 u4_3 v4_3
  clear zz hb
  go_wp2_with fail
  refine (verdict_no m0 m1 m2 m3 c0 c1 c2 r0 r1 r2 q3 q4 q5 _).mono ?_
  rintro e w5 ⟨⟨t, v, rfl⟩, hb⟩
  have x0_5 := keepBox hb (A := w.heap.size) (c := #[.int .u64 l0, .int .u64 l1, .int .u64 l2, .int .u64 l3]) (by first | omega | (simp; done) | (simp; omega)) (by intro o; simp [go_sem, *])
  have x1_5 := keepBox hb (A := w.heap.size + 1) (c := #[.int .u64 c0, .int .u64 c1, .int .u64 c2]) (by first | omega | (simp; done) | (simp; omega)) (by intro o; simp [go_sem, *])
  have x2_5 := keepBox hb (A := w.heap.size + 1 + 1) (c := #[.int .u64 q0, .int .u64 q1, .int .u64 q2, .int .u64 q3, .int .u64 q4, .int .u64 q5]) (by first | omega | (simp; done) | (simp; omega)) (by intro o; simp [go_sem, *])
  have x3_5 := keepBox hb (A := w.heap.size + 1 + 1 + 1) (c := #[.int .u64 m0, .int .u64 m1, .int .u64 m2, .int .u64 m3]) (by first | omega | (simp; done) | (simp; omega)) (by intro o; simp [go_sem, *])
  have x4_5 := keepBox hb (A := w.heap.size + 1 + 1 + 1 + 1) (c := #[.int .u64 r0, .int .u64 r1, .int .u64 r2]) (by first | omega | (simp; done) | (simp; omega)) (by intro o; simp [go_sem, *])
  have zz := hb.size
  try simp only [World.size_alloc] at zz
  have y0_5 : w.heap.size < w5.heap.size := by omega
  have u0_5 : w.heap.size ≤ w5.heap.size := by omega
  have v0_5 : w.heap.size < w5.heap.size + 1 + 1 := by omega
  have y1_5 : w.heap.size + 1 < w5.heap.size := by omega
  have u1_5 : w.heap.size + 1 ≤ w5.heap.size := by omega
  have v1_5 : w.heap.size + 1 < w5.heap.size + 1 + 1 := by omega
  have y2_5 : w.heap.size + 1 + 1 < w5.heap.size := by omega
  have u2_5 : w.heap.size + 1 + 1 ≤ w5.heap.size := by omega
  have v2_5 : w.heap.size + 1 + 1 < w5.heap.size + 1 + 1 := by omega
  have y3_5 : w.heap.size + 1 + 1 + 1 < w5.heap.size := by omega
  have u3_5 : w.heap.size + 1 + 1 + 1 ≤ w5.heap.size := by omega
  have v3_5 : w.heap.size + 1 + 1 + 1 < w5.heap.size + 1 + 1 := by omega
  have y4_5 : w.heap.size + 1 + 1 + 1 + 1 < w5.heap.size := by omega
  have u4_5 : w.heap.size + 1 + 1 + 1 + 1 ≤ w5.heap.size := by omega
  have v4_5 : w.heap.size + 1 + 1 + 1 + 1 < w5.heap.size + 1 + 1 := by omega
  have bt5 : Below w.heap.size w w5 := bTrans (by repeat (first | exact bt4 | refine bAlloc ?_ _)) hb
  clear bt4
  clear x0_4 y0_4 u0_4 v0_4 x1_4 y1_4 u1_4 v1_4 x2_4 y2_4 u2_4 v2_4 x3_4 y3_4 u3_4 v3_4 x4_4 y4_4 u4_4 v4_4
  clear zz hb
  go_wp2_with fail
  refine (valid_no m0 m1 m2 m3 c0 c1 c2 r0 r1 r2 q3 q4 q5 t v _).mono ?_
  rintro e w6 ⟨rfl, hb⟩
  have x0_6 := keepBox hb (A := w.heap.size) (c := #[.int .u64 l0, .int .u64 l1, .int .u64 l2, .int .u64 l3]) (by first | omega | (simp; done) | (simp; omega)) (by intro o; simp [go_sem, *])
  have x1_6 := keepBox hb (A := w.heap.size + 1) (c := #[.int .u64 c0, .int .u64 c1, .int .u64 c2]) (by first | omega | (simp; done) | (simp; omega)) (by intro o; simp [go_sem, *])
  have x2_6 := keepBox hb (A := w.heap.size + 1 + 1) (c := #[.int .u64 q0, .int .u64 q1, .int .u64 q2, .int .u64 q3, .int .u64 q4, .int .u64 q5]) (by first | omega | (simp; done) | (simp; omega)) (by intro o; simp [go_sem, *])
  have x3_6 := keepBox hb (A := w.heap.size + 1 + 1 + 1) (c := #[.int .u64 m0, .int .u64 m1, .int .u64 m2, .int .u64 m3]) (by first | omega | (simp; done) | (simp; omega)) (by intro o; simp [go_sem, *])
  have x4_6 := keepBox hb (A := w.heap.size + 1 + 1 + 1 + 1) (c := #[.int .u64 r0, .int .u64 r1, .int .u64 r2]) (by first | omega | (simp; done) | (simp; omega)) (by intro o; simp [go_sem, *])
  have zz := hb.size
  try simp only [World.size_alloc] at zz
  have y0_6 : w.heap.size < w6.heap.size := by omega
  have u0_6 : w.heap.size ≤ w6.heap.size := by omega
  have v0_6 : w.heap.size < w6.heap.size + 1 + 1 := by omega
  have y1_6 : w.heap.size + 1 < w6.heap.size := by omega
  have u1_6 : w.heap.size + 1 ≤ w6.heap.size := by omega
  have v1_6 : w.heap.size + 1 < w6.heap.size + 1 + 1 := by omega
  have y2_6 : w.heap.size + 1 + 1 < w6.heap.size := by omega
  have u2_6 : w.heap.size + 1 + 1 ≤ w6.heap.size := by omega
  have v2_6 : w.heap.size + 1 + 1 < w6.heap.size + 1 + 1 := by omega
  have y3_6 : w.heap.size + 1 + 1 + 1 < w6.heap.size := by omega
  have u3_6 : w.heap.size + 1 + 1 + 1 ≤ w6.heap.size := by omega
  have v3_6 : w.heap.size + 1 + 1 + 1 < w6.heap.size + 1 + 1 := by omega
  have y4_6 : w.heap.size + 1 + 1 + 1 + 1 < w6.heap.size := by omega
  have u4_6 : w.heap.size + 1 + 1 + 1 + 1 ≤ w6.heap.size := by omega
  have v4_6 : w.heap.size + 1 + 1 + 1 + 1 < w6.heap.size + 1 + 1 := by omega
  have bt6 : Below w.heap.size w w6 := bTrans (by repeat (first | exact bt5 | refine bAlloc ?_ _)) hb
  clear bt5
  clear x0_5 y0_5 u0_5 v0_5 x1_5 y1_5 u1_5 v1_5 x2_5 y2_5 u2_5 v2_5 x3_5 y3_5 u3_5 v3_5 x4_5 y4_5 u4_5 v4_5
  clear zz hb
  go_wp2_with fail
  refine (verdict_no l0 l1 l2 l3 q3 q4 q5 q0 q1 q2 q3 q4 q5 _).mono ?_
  rintro e w7 ⟨⟨t, v, rfl⟩, hb⟩
  have x0_7 := keepBox hb (A := w.heap.size) (c := #[.int .u64 l0, .int .u64 l1, .int .u64 l2, .int .u64 l3]) (by first | omega | (simp; done) | (simp; omega)) (by intro o; simp [go_sem, *])
  have x1_7 := keepBox hb (A := w.heap.size + 1) (c := #[.int .u64 c0, .int .u64 c1, .int .u64 c2]) (by first | omega | (simp; done) | (simp; omega)) (by intro o; simp [go_sem, *])
  have x2_7 := keepBox hb (A := w.heap.size + 1 + 1) (c := #[.int .u64 q0, .int .u64 q1, .int .u64 q2, .int .u64 q3, .int .u64 q4, .int .u64 q5]) (by first | omega | (simp; done) | (simp; omega)) (by intro o; simp [go_sem, *])
  have x3_7 := keepBox hb (A := w.heap.size + 1 + 1 + 1) (c := #[.int .u64 m0, .int .u64 m1, .int .u64 m2, .int .u64 m3]) (by first | omega | (simp; done) | (simp; omega)) (by intro o; simp [go_sem, *])
  have x4_7 := keepBox hb (A := w.heap.size + 1 + 1 + 1 + 1) (c := #[.int .u64 r0, .int .u64 r1, .int .u64 r2]) (by first | omega | (simp; done) | (simp; omega)) (by intro o; simp [go_sem, *])
  have x5_7 := keepBox hb (A := w6.heap.size) (c := #[.int .u64 q3, .int .u64 q4, .int .u64 q5]) (by first | omega | (simp; done) | (simp; omega)) (by intro o; simp [go_sem, *])
  have zz := hb.size
  try simp only [World.size_alloc] at zz
  have y0_7 : w.heap.size < w7.heap.size := by omega
  have u0_7 : w.heap.size ≤ w7.heap.size := by omega
  have v0_7 : w.heap.size < w7.heap.size + 1 + 1 := by omega
  have y1_7 : w.heap.size + 1 < w7.heap.size := by omega
  have u1_7 : w.heap.size + 1 ≤ w7.heap.size := by omega
  have v1_7 : w.heap.size + 1 < w7.heap.size + 1 + 1 := by omega
  have y2_7 : w.heap.size + 1 + 1 < w7.heap.size := by omega
  have u2_7 : w.heap.size + 1 + 1 ≤ w7.heap.size := by omega
  have v2_7 : w.heap.size + 1 + 1 < w7.heap.size + 1 + 1 := by omega
  have y3_7 : w.heap.size + 1 + 1 + 1 < w7.heap.size := by omega
  have u3_7 : w.heap.size + 1 + 1 + 1 ≤ w7.heap.size := by omega
  have v3_7 : w.heap.size + 1 + 1 + 1 < w7.heap.size + 1 + 1 := by omega
  have y4_7 : w.heap.size + 1 + 1 + 1 + 1 < w7.heap.size := by omega
  have u4_7 : w.heap.size + 1 + 1 + 1 + 1 ≤ w7.heap.size := by omega
  have v4_7 : w.heap.size + 1 + 1 + 1 + 1 < w7.heap.size + 1 + 1 := by omega
  have y5_7 : w6.heap.size < w7.heap.size := by omega
  have u5_7 : w6.heap.size ≤ w7.heap.size := by omega
  have v5_7 : w6.heap.size < w7.heap.size + 1 + 1 := by omega
  have bt7 : Below w.heap.size w w7 := bTrans (by repeat (first | exact bt6 | refine bAlloc ?_ _)) hb
  clear bt6
  clear x0_6 y0_6 u0_6 v0_6 x1_6 y1_6 u1_6 v1_6 x2_6 y2_6 u2_6 v2_6 x3_6 y3_6 u3_6 v3_6 x4_6 y4_6 u4_6 v4_6
  clear zz hb
  go_wp2_with fail
  refine (valid_no l0 l1 l2 l3 q3 q4 q5 q0 q1 q2 q3 q4 q5 t v _).mono ?_
  rintro e w8 ⟨rfl, hb⟩
  have x0_8 := keepBox hb (A := w.heap.size) (c := #[.int .u64 l0, .int .u64 l1, .int .u64 l2, .int .u64 l3]) (by first | omega | (simp; done) | (simp; omega)) (by intro o; simp [go_sem, *])
  have x1_8 := keepBox hb (A := w.heap.size + 1) (c := #[.int .u64 c0, .int .u64 c1, .int .u64 c2]) (by first | omega | (simp; done) | (simp; omega)) (by intro o; simp [go_sem, *])
  have x2_8 := keepBox hb (A := w.heap.size + 1 + 1) (c := #[.int .u64 q0, .int .u64 q1, .int .u64 q2, .int .u64 q3, .int .u64 q4, .int .u64 q5]) (by first | omega | (simp; done) | (simp; omega)) (by intro o; simp [go_sem, *])
  have x3_8 := keepBox hb (A := w.heap.size + 1 + 1 + 1) (c := #[.int .u64 m0, .int .u64 m1, .int .u64 m2, .int .u64 m3]) (by first | omega | (simp; done) | (simp; omega)) (by intro o; simp [go_sem, *])
  have x4_8 := keepBox hb (A := w.heap.size + 1 + 1 + 1 + 1) (c := #[.int .u64 r0, .int .u64 r1, .int .u64 r2]) (by first | omega | (simp; done) | (simp; omega)) (by intro o; simp [go_sem, *])
  have x5_8 := keepBox hb (A := w6.heap.size) (c := #[.int .u64 q3, .int .u64 q4, .int .u64 q5]) (by first | omega | (simp; done) | (simp; omega)) (by intro o; simp [go_sem, *])
  have zz := hb.size
  try simp only [World.size_alloc] at zz
  have y0_8 : w.heap.size < w8.heap.size := by omega
  have u0_8 : w.heap.size ≤ w8.heap.size := by omega
  have v0_8 : w.heap.size < w8.heap.size + 1 + 1 := by omega
  have y1_8 : w.heap.size + 1 < w8.heap.size := by omega
  have u1_8 : w.heap.size + 1 ≤ w8.heap.size := by omega
  have v1_8 : w.heap.size + 1 < w8.heap.size + 1 + 1 := by omega
  have y2_8 : w.heap.size + 1 + 1 < w8.heap.size := by omega
  have u2_8 : w.heap.size + 1 + 1 ≤ w8.heap.size := by omega
  have v2_8 : w.heap.size + 1 + 1 < w8.heap.size + 1 + 1 := by omega
  have y3_8 : w.heap.size + 1 + 1 + 1 < w8.heap.size := by omega
  have u3_8 : w.heap.size + 1 + 1 + 1 ≤ w8.heap.size := by omega
  have v3_8 : w.heap.size + 1 + 1 + 1 < w8.heap.size + 1 + 1 := by omega
  have y4_8 : w.heap.size + 1 + 1 + 1 + 1 < w8.heap.size := by omega
  have u4_8 : w.heap.size + 1 + 1 + 1 + 1 ≤ w8.heap.size := by omega
  have v4_8 : w.heap.size + 1 + 1 + 1 + 1 < w8.heap.size + 1 + 1 := by omega
  have y5_8 : w6.heap.size < w8.heap.size := by omega
  have u5_8 : w6.heap.size ≤ w8.heap.size := by omega
  have v5_8 : w6.heap.size < w8.heap.size + 1 + 1 := by omega
  have bt8 : Below w.heap.size w w8 := bTrans (by repeat (first | exact bt7 | refine bAlloc ?_ _)) hb
  clear bt7
  clear x0_7 y0_7 u0_7 v0_7 x1_7 y1_7 u1_7 v1_7 x2_7 y2_7 u2_7 v2_7 x3_7 y3_7 u3_7 v3_7 x4_7 y4_7 u4_7 v4_7 x5_7 y5_7 u5_7 v5_7
  clear zz hb
  go_wp2_with fail
  refine (verdict_yes l0 l1 l2 l3 q3 q4 q5 q0 q1 q2 q3 q4 q5 _).mono ?_
  rintro e w9 ⟨rfl, hb⟩
  have x0_9 := keepBox hb (A := w.heap.size) (c := #[.int .u64 l0, .int .u64 l1, .int .u64 l2, .int .u64 l3]) (by first | omega | (simp; done) | (simp; omega)) (by intro o; simp [go_sem, *])
  have x1_9 := keepBox hb (A := w.heap.size + 1) (c := #[.int .u64 c0, .int .u64 c1, .int .u64 c2]) (by first | omega | (simp; done) | (simp; omega)) (by intro o; simp [go_sem, *])
  have x2_9 := keepBox hb (A := w.heap.size + 1 + 1) (c := #[.int .u64 q0, .int .u64 q1, .int .u64 q2, .int .u64 q3, .int .u64 q4, .int .u64 q5]) (by first | omega | (simp; done) | (simp; omega)) (by intro o; simp [go_sem, *])
  have x3_9 := keepBox hb (A := w.heap.size + 1 + 1 + 1) (c := #[.int .u64 m0, .int .u64 m1, .int .u64 m2, .int .u64 m3]) (by first | omega | (simp; done) | (simp; omega)) (by intro o; simp [go_sem, *])
  have x4_9 := keepBox hb (A := w.heap.size + 1 + 1 + 1 + 1) (c := #[.int .u64 r0, .int .u64 r1, .int .u64 r2]) (by first | omega | (simp; done) | (simp; omega)) (by intro o; simp [go_sem, *])
  have x5_9 := keepBox hb (A := w6.heap.size) (c := #[.int .u64 q3, .int .u64 q4, .int .u64 q5]) (by first | omega | (simp; done) | (simp; omega)) (by intro o; simp [go_sem, *])
  have zz := hb.size
  try simp only [World.size_alloc] at zz
  have y0_9 : w.heap.size < w9.heap.size := by omega
  have u0_9 : w.heap.size ≤ w9.heap.size := by omega
  have v0_9 : w.heap.size < w9.heap.size + 1 + 1 := by omega
  have y1_9 : w.heap.size + 1 < w9.heap.size := by omega
  have u1_9 : w.heap.size + 1 ≤ w9.heap.size := by omega
  have v1_9 : w.heap.size + 1 < w9.heap.size + 1 + 1 := by omega
  have y2_9 : w.heap.size + 1 + 1 < w9.heap.size := by omega
  have u2_9 : w.heap.size + 1 + 1 ≤ w9.heap.size := by omega
  have v2_9 : w.heap.size + 1 + 1 < w9.heap.size + 1 + 1 := by omega
  have y3_9 : w.heap.size + 1 + 1 + 1 < w9.heap.size := by omega
  have u3_9 : w.heap.size + 1 + 1 + 1 ≤ w9.heap.size := by omega
  have v3_9 : w.heap.size + 1 + 1 + 1 < w9.heap.size + 1 + 1 := by omega
  have y4_9 : w.heap.size + 1 + 1 + 1 + 1 < w9.heap.size := by omega
  have u4_9 : w.heap.size + 1 + 1 + 1 + 1 ≤ w9.heap.size := by omega
  have v4_9 : w.heap.size + 1 + 1 + 1 + 1 < w9.heap.size + 1 + 1 := by omega
  have y5_9 : w6.heap.size < w9.heap.size := by omega
  have u5_9 : w6.heap.size ≤ w9.heap.size := by omega
  have v5_9 : w6.heap.size < w9.heap.size + 1 + 1 := by omega
  have bt9 : Below w.heap.size w w9 := bTrans (by repeat (first | exact bt8 | refine bAlloc ?_ _)) hb
  clear bt8
  clear x0_8 y0_8 u0_8 v0_8 x1_8 y1_8 u1_8 v1_8 x2_8 y2_8 u2_8 v2_8 x3_8 y3_8 u3_8 v3_8 x4_8 y4_8 u4_8 v4_8 x5_8 y5_8 u5_8 v5_8
  clear zz hb
  go_wp2_with fail
  refine (valid_yes l0 l1 l2 l3 q3 q4 q5 q0 q1 q2 q3 q4 q5 _).mono ?_
  rintro e w10 ⟨rfl, hb⟩
  have x0_10 := keepBox hb (A := w.heap.size) (c := #[.int .u64 l0, .int .u64 l1, .int .u64 l2, .int .u64 l3]) (by first | omega | (simp; done) | (simp; omega)) (by intro o; simp [go_sem, *])
  have x1_10 := keepBox hb (A := w.heap.size + 1) (c := #[.int .u64 c0, .int .u64 c1, .int .u64 c2]) (by first | omega | (simp; done) | (simp; omega)) (by intro o; simp [go_sem, *])
  have x2_10 := keepBox hb (A := w.heap.size + 1 + 1) (c := #[.int .u64 q0, .int .u64 q1, .int .u64 q2, .int .u64 q3, .int .u64 q4, .int .u64 q5]) (by first | omega | (simp; done) | (simp; omega)) (by intro o; simp [go_sem, *])
  have x3_10 := keepBox hb (A := w.heap.size + 1 + 1 + 1) (c := #[.int .u64 m0, .int .u64 m1, .int .u64 m2, .int .u64 m3]) (by first | omega | (simp; done) | (simp; omega)) (by intro o; simp [go_sem, *])
  have x4_10 := keepBox hb (A := w.heap.size + 1 + 1 + 1 + 1) (c := #[.int .u64 r0, .int .u64 r1, .int .u64 r2]) (by first | omega | (simp; done) | (simp; omega)) (by intro o; simp [go_sem, *])
  have x5_10 := keepBox hb (A := w6.heap.size) (c := #[.int .u64 q3, .int .u64 q4, .int .u64 q5]) (by first | omega | (simp; done) | (simp; omega)) (by intro o; simp [go_sem, *])
  have zz := hb.size
  try simp only [World.size_alloc] at zz
  have y0_10 : w.heap.size < w10.heap.size := by omega
  have u0_10 : w.heap.size ≤ w10.heap.size := by omega
  have v0_10 : w.heap.size < w10.heap.size + 1 + 1 := by omega
  have y1_10 : w.heap.size + 1 < w10.heap.size := by omega
  have u1_10 : w.heap.size + 1 ≤ w10.heap.size := by omega
  have v1_10 : w.heap.size + 1 < w10.heap.size + 1 + 1 := by omega
  have y2_10 : w.heap.size + 1 + 1 < w10.heap.size := by omega
  have u2_10 : w.heap.size + 1 + 1 ≤ w10.heap.size := by omega
  have v2_10 : w.heap.size + 1 + 1 < w10.heap.size + 1 + 1 := by omega
  have y3_10 : w.heap.size + 1 + 1 + 1 < w10.heap.size := by omega
  have u3_10 : w.heap.size + 1 + 1 + 1 ≤ w10.heap.size := by omega
  have v3_10 : w.heap.size + 1 + 1 + 1 < w10.heap.size + 1 + 1 := by omega
  have y4_10 : w.heap.size + 1 + 1 + 1 + 1 < w10.heap.size := by omega
  have u4_10 : w.heap.size + 1 + 1 + 1 + 1 ≤ w10.heap.size := by omega
  have v4_10 : w.heap.size + 1 + 1 + 1 + 1 < w10.heap.size + 1 + 1 := by omega
  have y5_10 : w6.heap.size < w10.heap.size := by omega
  have u5_10 : w6.heap.size ≤ w10.heap.size := by omega
  have v5_10 : w6.heap.size < w10.heap.size + 1 + 1 := by omega
  have bt10 : Below w.heap.size w w10 := bTrans (by repeat (first | exact bt9 | refine bAlloc ?_ _)) hb
  clear bt9
  clear x0_9 y0_9 u0_9 v0_9 x1_9 y1_9 u1_9 v1_9 x2_9 y2_9 u2_9 v2_9 x3_9 y3_9 u3_9 v3_9 x4_9 y4_9 u4_9 v4_9 x5_9 y5_9 u5_9 v5_9
  clear zz hb
  go_wp2
  all_goals (go_ret; exact ⟨by simp, bt10⟩)
end Go.Proofs.Qxb6616476a
