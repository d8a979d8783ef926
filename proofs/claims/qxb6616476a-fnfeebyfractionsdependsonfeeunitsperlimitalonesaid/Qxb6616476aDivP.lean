import Derived.Test.Qxb6616476aBits
namespace Go.Proofs.Qxb6616476a
namespace Pd

theorem top_ok {y1 y0 u d q r : Nat} (hu : u = q * y1 + r) (hok : q * y0 ≤ 4294967296 * r + d) : q * (y1 * 4294967296 + y0) ≤ u * 4294967296 + d := by
  subst hu
  have e : q * (y1 * 4294967296 + y0) = q * y1 * 4294967296 + q * y0 := by rw [Nat.mul_add, Nat.mul_assoc]
  omega
theorem top_no {y1 y0 u d q r : Nat} (hu : u = q * y1 + r) (hno : 4294967296 * r + d < q * y0) : u * 4294967296 + d < q * (y1 * 4294967296 + y0) := by
  subst hu
  have e : q * (y1 * 4294967296 + y0) = q * y1 * 4294967296 + q * y0 := by rw [Nat.mul_add, Nat.mul_assoc]
  omega
theorem exact_q {N Y q : Nat} (hY : 0 < Y) (h1 : q * Y ≤ N) (h2 : N / Y ≤ q) : N / Y = q := by
  have := (Nat.le_div_iff_mul_le hY).2 h1
  omega
theorem lt_q {N Y q : Nat} (h : N < q * Y) : N / Y < q := Nat.div_lt_of_lt_mul (by rwa [Nat.mul_comm] at h)

theorem wide {y1 y0 u : Nat} (hy : 2147483648 ≤ y1) (hy0 : y0 < 4294967296) (hu : u < y1 * 4294967296 + y0) : u < y1 * (4294967296 + 2) := by
  rw [Nat.mul_add]
  omega
/-- what stands at the loop's head -/
def Inv (y1 y0 u d q r : Nat) : Prop := u = q * y1 + r ∧ (u * 4294967296 + d) / (y1 * 4294967296 + y0) ≤ q ∧ q ≤ 4294967297 ∧ r < 4294967296
theorem start {y1 y0 u d : Nat} (hy : 2147483648 ≤ y1) (hy1 : y1 < 4294967296) (hy0 : y0 < 4294967296) (hu : u < y1 * 4294967296 + y0) (hd : d < 4294967296) : Inv y1 y0 u d (u / y1) (u % y1) := by
  have hm : u % y1 < y1 := Nat.mod_lt _ (by omega)
  refine ⟨by rw [Nat.mul_comm]; exact (Nat.div_add_mod u y1).symm, ?_, ?_, by omega⟩
  · have h1 : u < (u / y1 + 1) * y1 := by
      have := Nat.div_add_mod u y1
      rw [Nat.mul_comm] at this
      have e : (u / y1 + 1) * y1 = u / y1 * y1 + y1 := by rw [Nat.add_mul]; omega
      omega
    have h2 : (u * 4294967296 + d) < (u / y1 + 1) * (y1 * 4294967296 + y0) := by
      have e : (u / y1 + 1) * (y1 * 4294967296 + y0) = (u / y1 + 1) * y1 * 4294967296 + (u / y1 + 1) * y0 := by rw [Nat.mul_add, Nat.mul_assoc]
      omega
    have := lt_q h2
    omega
  · have h3 : u < y1 * (4294967296 + 2) := wide hy hy0 hu
    have h4 := Nat.div_lt_of_lt_mul h3
    exact Nat.le_of_lt_succ h4
theorem small {y1 y0 u d : Nat} (hu : u < y1 * 4294967296 + y0) (hd : d < 4294967296) : (u * 4294967296 + d) / (y1 * 4294967296 + y0) < 4294967296 := by
  apply lt_q
  have e : 4294967296 * (y1 * 4294967296 + y0) = (y1 * 4294967296 + y0) * 4294967296 := Nat.mul_comm _ _
  rw [e]
  omega
theorem down {y1 y0 u d q r : Nat} (h : Inv y1 y0 u d q r) (hu : u < y1 * 4294967296 + y0) (hd : d < 4294967296) (ht : 4294967296 ≤ q ∨ 4294967296 * r + d < q * y0) :
    1 ≤ q ∧ u = (q - 1) * y1 + (r + y1) ∧ (u * 4294967296 + d) / (y1 * 4294967296 + y0) ≤ q - 1 ∧ q - 1 ≤ 4294967296 := by
  have hq : (u * 4294967296 + d) / (y1 * 4294967296 + y0) < q := by
    rcases ht with ht | ht
    · have := small hu hd
      omega
    · exact lt_q (top_no h.1 ht)
  have h1 : 1 ≤ q := Nat.lt_of_le_of_lt (Nat.zero_le _) hq
  refine ⟨h1, ?_, Nat.le_sub_one_of_lt hq, by have := h.2.2.1; omega⟩
  obtain ⟨k, rfl⟩ : ∃ k, q = k + 1 := ⟨q - 1, by omega⟩
  have e := h.1
  rw [Nat.add_mul] at e
  simp
  omega
theorem again {y1 y0 u d q r : Nat} (h : Inv y1 y0 u d q r) (hu : u < y1 * 4294967296 + y0) (hd : d < 4294967296) (ht : 4294967296 ≤ q ∨ 4294967296 * r + d < q * y0) (hr : r + y1 < 4294967296) : Inv y1 y0 u d (q - 1) (r + y1) := by
  obtain ⟨_, h2, h3, h4⟩ := down h hu hd ht
  exact ⟨h2, h3, by omega, hr⟩
theorem leave {y1 y0 u d q r : Nat} (h : Inv y1 y0 u d q r) (hy : 0 < y1) (hy0 : y0 < 4294967296) (hu : u < y1 * 4294967296 + y0) (hd : d < 4294967296) (ht : 4294967296 ≤ q ∨ 4294967296 * r + d < q * y0) (hr : 4294967296 ≤ r + y1) :
    q - 1 = (u * 4294967296 + d) / (y1 * 4294967296 + y0) := by
  obtain ⟨_, h2, h3, h4⟩ := down h hu hd ht
  refine (exact_q (by omega) (top_ok h2 ?_) h3).symm
  have h5 : (q - 1) * y0 ≤ 4294967296 * 4294967295 := Nat.mul_le_mul h4 (by omega)
  omega
theorem stop {y1 y0 u d q r : Nat} (h : Inv y1 y0 u d q r) (hy : 0 < y1) (ht : q * y0 ≤ 4294967296 * r + d) : q = (u * 4294967296 + d) / (y1 * 4294967296 + y0) :=
  (exact_q (by omega) (top_ok h.1 ht) h.2.1).symm

/-- two digits of the quotient, one after the other -/
theorem two (Y N d : Nat) (hY : 0 < Y) : (N * 4294967296 + d) / Y = N / Y * 4294967296 + (N % Y * 4294967296 + d) / Y ∧ (N * 4294967296 + d) % Y = (N % Y * 4294967296 + d) % Y := by
  have e : N * 4294967296 + d = (N % Y * 4294967296 + d) + Y * (N / Y * 4294967296) := by
    have := Nat.div_add_mod N Y
    have e1 : Y * (N / Y * 4294967296) = Y * (N / Y) * 4294967296 := by rw [Nat.mul_assoc]
    rw [e1]
    omega
  constructor
  · rw [e, Nat.add_mul_div_left _ _ hY]
    omega
  · rw [e, Nat.add_mul_mod_self_left]
end Pd
end Go.Proofs.Qxb6616476a
