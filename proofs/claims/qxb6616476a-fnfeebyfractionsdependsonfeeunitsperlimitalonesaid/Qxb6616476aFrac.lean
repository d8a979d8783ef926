import Derived.Test.Qxb6616476aWide2
import Derived.Test.Qxb6616476aPla
namespace Go.Proofs.Qxb6616476a
/-- three fractions: their sum's whole part, and what is left of it, over one denominator -/
def IsFrac (an ad bn bd cn cd whole : Int) (frac : Bool) : Prop :=
  (0 ≤ whole ∧ whole ≤ 2) ∧ ∃ F, an * bd * cd + bn * ad * cd + cn * ad * bd = whole * (ad * bd * cd) + F ∧ 0 ≤ F ∧ F < ad * bd * cd ∧ (frac = true ↔ F ≠ 0)
theorem frac_core {an ad bn bd cn cd n w : Int} (ha : 0 ≤ an ∧ an < ad) (hb : 0 ≤ bn ∧ bn < bd) (hc : 0 ≤ cn ∧ cn < cd) (hw : 0 ≤ w ∧ w ≤ 1) (hn : an * bd + bn * ad = w * (ad * bd) + n) (h0 : 0 ≤ n ∧ n < ad * bd) :
    (ad * bd * (cd - cn) < n * cd → IsFrac an ad bn bd cn cd (w + 1) true) ∧
    (ad * bd * (cd - cn) = n * cd → IsFrac an ad bn bd cn cd (w + 1) false) ∧
    (n * cd < ad * bd * (cd - cn) → ∀ f : Bool, (f = true ↔ (n ≠ 0 ∨ cn ≠ 0)) → IsFrac an ad bn bd cn cd w f) := by
  have hD : 0 < ad * bd := Int.mul_pos (by omega) (by omega)
  have e0 : an * bd * cd + bn * ad * cd = w * (ad * bd * cd) + n * cd := by
    rw [← Int.add_mul, hn, Int.add_mul]; congr 1; ac_rfl
  have e1 : cn * ad * bd = ad * bd * cn := by ac_rfl
  have e2 : ad * bd * (cd - cn) = ad * bd * cd - ad * bd * cn := Int.mul_sub _ _ _
  have e3 : (w + 1) * (ad * bd * cd) = w * (ad * bd * cd) + ad * bd * cd := by rw [Int.add_mul, Int.one_mul]
  have p1 : n * cd < ad * bd * cd := Int.mul_lt_mul_of_pos_right h0.2 (by omega)
  have p2 : ad * bd * cn < ad * bd * cd := Int.mul_lt_mul_of_pos_left hc.2 hD
  have p3 : 0 ≤ n * cd := Int.mul_nonneg h0.1 (by omega)
  have p4 : 0 ≤ ad * bd * cn := Int.mul_nonneg (Int.le_of_lt hD) hc.1
  have p5 : 0 < ad * bd * cd := Int.mul_pos hD (by omega)
  refine ⟨fun h => ⟨by omega, n * cd + ad * bd * cn - ad * bd * cd, ?_, ?_, ?_, ?_⟩, fun h => ⟨by omega, n * cd + ad * bd * cn - ad * bd * cd, ?_, ?_, ?_, ?_⟩, fun h f hf => ⟨by omega, n * cd + ad * bd * cn, ?_, ?_, ?_, ?_⟩⟩
  · omega
  · omega
  · omega
  · simp; omega
  · omega
  · omega
  · omega
  · simp; omega
  · omega
  · omega
  · omega
  · rw [hf]
    have q1 : n ≠ 0 → 0 < n * cd := fun h => Int.mul_pos (by omega) (by omega)
    have q2 : cn ≠ 0 → 0 < ad * bd * cn := fun h => Int.mul_pos hD (by omega)
    constructor
    · rintro (h1 | h1)
      · have := q1 h1; omega
      · have := q2 h1; omega
    · intro h1
      by_cases h2 : n = 0
      · right
        intro h3
        rw [h2, h3] at h1
        simp at h1
      · exact Or.inl h2
theorem mix_gt {WA WB an ad bn bd : Int} (ha : 0 ≤ an ∧ an < ad) (hb : 0 ≤ bn ∧ bn < bd) :
    (0 < if cmpI WA WB = 0 then cmpI (an * bd) (bn * ad) else cmpI WA WB) ↔ (WB * bd + bn) * ad < (WA * ad + an) * bd := by
  have e1 : (WB * bd + bn) * ad = WB * (ad * bd) + bn * ad := by rw [Int.add_mul]; congr 1; ac_rfl
  have e2 : (WA * ad + an) * bd = WA * (ad * bd) + an * bd := by rw [Int.add_mul]; congr 1; ac_rfl
  have p1 : 0 ≤ bn * ad := Int.mul_nonneg hb.1 (by omega)
  have p2 : bn * ad < ad * bd := by rw [Int.mul_comm ad bd]; exact Int.mul_lt_mul_of_pos_right hb.2 (by omega)
  have p3 : 0 ≤ an * bd := Int.mul_nonneg ha.1 (by omega)
  have p4 : an * bd < ad * bd := Int.mul_lt_mul_of_pos_right ha.2 (by omega)
  have hP : 0 < ad * bd := Int.mul_pos (by omega) (by omega)
  rw [e1, e2]
  unfold cmpI
  rcases Int.lt_trichotomy WA WB with h | h | h
  · have q := Int.mul_le_mul_of_nonneg_right (show WA + 1 ≤ WB by omega) (Int.le_of_lt hP)
    rw [Int.add_mul, Int.one_mul] at q
    have hc : (if WA = WB then (0 : Int) else if WA < WB then -1 else 1) = -1 := by rw [if_neg (by omega), if_pos h]
    rw [hc, if_neg (by decide)]
    constructor
    · intro h1
      omega
    · intro h1
      exfalso
      omega
  · subst h
    rw [if_pos rfl, if_pos rfl]
    constructor
    · intro h1
      by_cases q1 : an * bd = bn * ad
      · simp [q1] at h1
      · by_cases q2 : an * bd < bn * ad
        · simp [q1, q2] at h1
        · omega
    · intro h1
      rw [if_neg (by omega), if_neg (by omega)]
      omega
  · have q := Int.mul_le_mul_of_nonneg_right (show WB + 1 ≤ WA by omega) (Int.le_of_lt hP)
    rw [Int.add_mul, Int.one_mul] at q
    have hc : (if WA = WB then (0 : Int) else if WA < WB then -1 else 1) = 1 := by rw [if_neg (by omega), if_neg (by omega)]
    rw [hc, if_neg (by decide)]
    constructor
    · intro h1
      omega
    · intro h1
      decide
end Go.Proofs.Qxb6616476a
