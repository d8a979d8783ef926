import Derived.Test.Qxb6616476aFeeA
namespace Go.Proofs.Qxb6616476a
open Go.RowKit Go.Lib

/-- the exact numerator -/
def nn (rh rl A mu : Nat → Int) (P F : Int) (folded : Bool) (k : Nat) : Int := if folded = true then x1 rh rl A mu k * P else x1 rh rl A mu k * P * F
theorem fits_true {rh rl A mu : Nat → Int} {P F : Int} {folded : Bool} : ∀ {m : Nat}, fitsTo rh rl A mu P F folded m = true → ∀ k, k < m → f1 rh rl A mu P k = true ∧ f2 rh rl A mu P F folded k = true
  | 0, _, _, hk => by omega
  | m + 1, h, k, hk => by
    simp only [fitsTo, Bool.and_eq_true] at h
    by_cases e : k = m
    · subst e; exact ⟨h.1.2, h.2⟩
    · exact fits_true h.1.1 k (by omega)
theorem fits_false {rh rl A mu : Nat → Int} {P F : Int} {folded : Bool} : ∀ {m : Nat}, fitsTo rh rl A mu P F folded m = false → ∃ k, k < m ∧ (f1 rh rl A mu P k = false ∨ f2 rh rl A mu P F folded k = false)
  | 0, h => by simp [fitsTo] at h
  | m + 1, h => by
    simp only [fitsTo, Bool.and_eq_false_iff] at h
    rcases h with (h | h) | h
    · obtain ⟨k, hk, h'⟩ := fits_false h
      exact ⟨k, by omega, h'⟩
    · exact ⟨m, by omega, Or.inl h⟩
    · exact ⟨m, by omega, Or.inr h⟩
theorem nn_fits {rh rl A mu : Nat → Int} {P F : Int} {folded : Bool} {k : Nat} (h0 : 0 ≤ x1 rh rl A mu k * P) (hF : 0 ≤ F) (h1 : f1 rh rl A mu P k = true) (h2 : f2 rh rl A mu P F folded k = true) : y3 rh rl A mu P F folded k = nn rh rl A mu P F folded k ∧ Big (nn rh rl A mu P F folded k) := by
  unfold f1 at h1
  rw [decide_eq_true_iff] at h1
  have e2 : y2 rh rl A mu P k = x1 rh rl A mu k * P := by unfold y2; exact Int.emod_eq_of_lt h0 h1
  unfold y3 nn
  unfold f2 at h2
  rw [e2] at h2 ⊢
  cases folded with
  | true => exact ⟨rfl, h0, h1⟩
  | false =>
    have h2 : decide (x1 rh rl A mu k * P * F < 115792089237316195423570985008687907853269984665640564039457584007913129639936) = true := h2
    rw [decide_eq_true_iff] at h2
    have h3 := Int.mul_nonneg h0 hF
    exact ⟨Int.emod_eq_of_lt h3 h2, h3, h2⟩
theorem nn_past {rh rl A mu : Nat → Int} {P F : Int} {folded : Bool} {k : Nat} (h0 : 0 ≤ x1 rh rl A mu k * P) (hF : 0 < F) (h : f1 rh rl A mu P k = false ∨ f2 rh rl A mu P F folded k = false) : 115792089237316195423570985008687907853269984665640564039457584007913129639936 ≤ nn rh rl A mu P F folded k := by
  by_cases h1 : f1 rh rl A mu P k = true
  · have h2 : f2 rh rl A mu P F folded k = false := by
      rcases h with h | h
      · rw [h1] at h; cases h
      · exact h
    unfold f1 at h1
    rw [decide_eq_true_iff] at h1
    have e2 : y2 rh rl A mu P k = x1 rh rl A mu k * P := by unfold y2; exact Int.emod_eq_of_lt h0 h1
    unfold f2 at h2
    rw [e2] at h2
    unfold nn
    cases folded with
    | true => simp at h2
    | false =>
      have h2 : decide (x1 rh rl A mu k * P * F < 115792089237316195423570985008687907853269984665640564039457584007913129639936) = false := h2
      rw [decide_eq_false_iff_not] at h2
      show _ ≤ x1 rh rl A mu k * P * F
      omega
  · have h1 : f1 rh rl A mu P k = false := by simpa using h1
    unfold f1 at h1
    rw [decide_eq_false_iff_not] at h1
    unfold nn
    cases folded with
    | true => show _ ≤ x1 rh rl A mu k * P; omega
    | false =>
      show _ ≤ x1 rh rl A mu k * P * F
      have := Int.mul_le_mul_of_nonneg_left (show 1 ≤ F by omega) h0
      omega
theorem mix6 (x r d x' r' d' : Int) (hx : Big x) (hx' : Big x') (hr : Word r) (hd : Word d) (hr' : Word r') (hd' : Word d') (w : World) : Calls Try.prog 33 #[.agg (U6 x r d), .agg (U6 x' r' d')] w fun e w' => e = .returned (.int .i64 (if cmpI x x' = 0 then cmpI (r * d') (r' * d) else cmpI x x')) ∧ Below w.heap.size w w' := by
  refine (mixCmp _ _ _ _ r d _ _ _ _ r' d' (wmod _) (wmod _) (wmod _) hr hd (wmod _) (wmod _) (wmod _) hr' hd' w).mono ?_
  rintro e w' ⟨rfl, hb⟩
  rw [U4_val hx, U4_val hx']
  exact ⟨rfl, hb⟩
theorem frac6 (x r d : Int) (w : World) : Calls Try.prog 36 #[.agg (U6 x r d)] w fun e w' => e = .returned (.agg #[.int .u64 0, .int .u64 0, .int .u64 r, .int .u64 d]) ∧ Below w.heap.size w w' := fraction_any _ _ _ _ r d w
def FN (an ad bn bd cn cd : Int) : Int := an * bd * cd + bn * ad * cd + cn * ad * bd
theorem fracE (an ad bn bd cn cd : Int) (h1 : Word an) (h2 : Word ad) (h3 : Word bn) (h4 : Word bd) (h5 : Word cn) (h6 : Word cd) (ha : an < ad) (hb : bn < bd) (hc : cn < cd) (w : World) :
    Calls Try.prog 35 #[.agg #[.int .u64 0, .int .u64 0, .int .u64 an, .int .u64 ad], .agg #[.int .u64 0, .int .u64 0, .int .u64 bn, .int .u64 bd], .agg #[.int .u64 0, .int .u64 0, .int .u64 cn, .int .u64 cd]] w fun e w' => e = .returned (.tuple #[.int .u64 (FN an ad bn bd cn cd / (ad * bd * cd)), .bool (decide (FN an ad bn bd cn cd % (ad * bd * cd) ≠ 0))]) ∧ Below w.heap.size w w' := by
  refine (fracSum an ad bn bd cn cd h1 h2 h3 h4 h5 h6 ha hb hc w).mono ?_
  rintro e w' ⟨⟨whole, frac, rfl, _, F, e1, e2, e3, e4⟩, hb⟩
  refine ⟨?_, hb⟩
  have d1 : FN an ad bn bd cn cd / (ad * bd * cd) = whole := by
    unfold FN
    rw [e1, Int.mul_comm, Int.add_comm, Int.add_mul_ediv_left _ _ (by omega), Int.ediv_eq_zero_of_lt e2 e3, Int.zero_add]
  have d2 : FN an ad bn bd cn cd % (ad * bd * cd) = F := by
    unfold FN
    rw [e1, Int.mul_comm, Int.add_comm, Int.add_mul_emod_self_left, Int.emod_eq_of_lt e2 e3]
  have e5 : frac = decide (F ≠ 0) := by rw [Bool.eq_iff_iff, e4, decide_eq_true_iff]
  rw [d1, d2, e5]
theorem FN_bound {an ad bn bd cn cd : Int} (h1 : 0 ≤ an) (h3 : 0 ≤ bn) (h5 : 0 ≤ cn) (ha : an < ad) (hb : bn < bd) (hc : cn < cd) : 0 < ad * bd * cd ∧ 0 ≤ FN an ad bn bd cn cd / (ad * bd * cd) ∧ FN an ad bn bd cn cd / (ad * bd * cd) ≤ 2 := by
  have hD : 0 < ad * bd * cd := mul_pos3 (by omega) (by omega) (by omega)
  have p1 : an * bd * cd < ad * bd * cd := by rw [Int.mul_assoc, Int.mul_assoc]; exact Int.mul_lt_mul_of_pos_right ha (Int.mul_pos (by omega) (by omega))
  have p2 : bn * ad * cd < ad * bd * cd := by rw [show ad * bd * cd = bd * (ad * cd) by ac_rfl, Int.mul_assoc]; exact Int.mul_lt_mul_of_pos_right hb (Int.mul_pos (by omega) (by omega))
  have p3 : cn * ad * bd < ad * bd * cd := by rw [show ad * bd * cd = cd * (ad * bd) by ac_rfl, Int.mul_assoc]; exact Int.mul_lt_mul_of_pos_right hc (Int.mul_pos (by omega) (by omega))
  have q1 := Int.mul_nonneg (Int.mul_nonneg h1 (show 0 ≤ bd by omega)) (show 0 ≤ cd by omega)
  have q2 := Int.mul_nonneg (Int.mul_nonneg h3 (show 0 ≤ ad by omega)) (show 0 ≤ cd by omega)
  have q3 := Int.mul_nonneg (Int.mul_nonneg h5 (show 0 ≤ ad by omega)) (show 0 ≤ bd by omega)
  refine ⟨hD, Int.ediv_nonneg (by unfold FN; omega) (Int.le_of_lt hD), ?_⟩
  have : FN an ad bn bd cn cd / (ad * bd * cd) < 3 := Int.ediv_lt_of_lt_mul hD (by unfold FN; omega)
  omega
theorem U4_small {c : Int} (hc : Word c) : #[.int .u64 0, .int .u64 0, .int .u64 0, .int .u64 c] = U4 c := by
  rw [U4_eq ⟨by decide, by decide⟩ ⟨by decide, by decide⟩ ⟨by decide, by decide⟩ hc]
  unfold V4
  simp
/-- the end: the sums' flags and the rounding -/
theorem fee_end {z dv : Nat → Int} {u : Nat} (hd : ∀ k, k < 5 → 0 < dv k) (hz : ∀ k, k < 5 → Big (z k)) (hu : Top z dv u) {s1 s2 s3 c : Int} {fr : Bool}
    (e1 : s1 = (z u / dv u + z 3 / dv 3) % 115792089237316195423570985008687907853269984665640564039457584007913129639936) (e2 : s2 = (s1 + z 4 / dv 4) % 115792089237316195423570985008687907853269984665640564039457584007913129639936) (e3 : s3 = (s2 + c) % 115792089237316195423570985008687907853269984665640564039457584007913129639936)
    (hc : c = FN (z u % dv u) (dv u) (z 3 % dv 3) (dv 3) (z 4 % dv 4) (dv 4) / (dv u * dv 3 * dv 4)) (hfr : fr = decide (FN (z u % dv u) (dv u) (z 3 % dv 3) (dv 3) (z 4 % dv 4) (dv 4) % (dv u * dv 3 * dv 4) ≠ 0))
    {fee : Int} {ok : Bool}
    (hno : ok = false → ¬ (z u / dv u + z 3 / dv 3 < 115792089237316195423570985008687907853269984665640564039457584007913129639936) ∨ ¬ (s1 + z 4 / dv 4 < 115792089237316195423570985008687907853269984665640564039457584007913129639936) ∨ ¬ (s2 + c < 115792089237316195423570985008687907853269984665640564039457584007913129639936) ∨ 6277101735386680763835789423207666416102355444464034512896 ≤ s3 ∨ (s3 / 340282366920938463463374607431768211456 = 18446744073709551615 ∧ ¬ (s3 % 340282366920938463463374607431768211456 = 0 ∧ fr = false)))
    (hok : ok = true → (z u / dv u + z 3 / dv 3 < 115792089237316195423570985008687907853269984665640564039457584007913129639936 ∧ s1 + z 4 / dv 4 < 115792089237316195423570985008687907853269984665640564039457584007913129639936 ∧ s2 + c < 115792089237316195423570985008687907853269984665640564039457584007913129639936) ∧ 0 ≤ fee ∧ (if s3 % 340282366920938463463374607431768211456 = 0 ∧ fr = false then fee = s3 / 340282366920938463463374607431768211456 else fee = s3 / 340282366920938463463374607431768211456 + 1)) :
    Right z dv fee ok := by
  have hu3 := hu.1
  have du := hd u (by omega); have d3 := hd 3 (by omega); have d4 := hd 4 (by omega)
  have ru := Int.emod_nonneg (z u) (show dv u ≠ 0 by omega); have ru' := Int.emod_lt_of_pos (z u) du
  have r3 := Int.emod_nonneg (z 3) (show dv 3 ≠ 0 by omega); have r3' := Int.emod_lt_of_pos (z 3) d3
  have r4 := Int.emod_nonneg (z 4) (show dv 4 ≠ 0 by omega); have r4' := Int.emod_lt_of_pos (z 4) d4
  obtain ⟨hD, c0, c2⟩ := FN_bound ru r3 r4 ru' r3' r4'
  rw [← hc] at c0 c2
  have qu := Int.ediv_nonneg (hz u (by omega)).1 (Int.le_of_lt du)
  have q3 := Int.ediv_nonneg (hz 3 (by omega)).1 (Int.le_of_lt d3)
  have q4 := Int.ediv_nonneg (hz 4 (by omega)).1 (Int.le_of_lt d4)
  obtain ⟨G, hG⟩ : ∃ G, G = FN (z u % dv u) (dv u) (z 3 % dv 3) (dv 3) (z 4 % dv 4) (dv 4) % (dv u * dv 3 * dv 4) := ⟨_, rfl⟩
  have hG0 : 0 ≤ G := by rw [hG]; exact Int.emod_nonneg _ (by omega)
  have hG1 : G < dv u * dv 3 * dv 4 := by rw [hG]; exact Int.emod_lt_of_pos _ hD
  have hF : z u % dv u * dv 3 * dv 4 + z 3 % dv 3 * dv u * dv 4 + z 4 % dv 4 * dv u * dv 3 = c * DD dv u + G := by
    have h := Int.mul_ediv_add_emod (FN (z u % dv u) (dv u) (z 3 % dv 3) (dv 3) (z 4 % dv 4) (dv 4)) (dv u * dv 3 * dv 4)
    rw [← hG, ← hc] at h
    unfold DD
    rw [Int.mul_comm c]
    unfold FN at h
    exact h.symm
  have hT := TT_sum (n := z) (d := dv) (u := u) (W := fun k => z k / dv k) (r := fun k => z k % dv k) (fun k _ => by show z k = z k / dv k * dv k + z k % dv k; rw [Int.mul_comm]; exact (Int.mul_ediv_add_emod _ _).symm) hu3 hF
  have hfr' : fr = false ↔ G = 0 := by
    rw [hfr, ← hG]
    simp
  refine ⟨u, hu, rightAt_of_sum (s := z u / dv u + z 3 / dv 3 + z 4 / dv 4 + c) (F := G) hD hT ⟨hG0, hG1⟩ (by omega) ?_ ?_⟩
  · intro ho
    obtain ⟨⟨k1, k2, k3⟩, k4, k5⟩ := hok ho
    have es : s3 = z u / dv u + z 3 / dv 3 + z 4 / dv 4 + c := by omega
    rw [← es]
    refine ⟨k4, ?_⟩
    by_cases hcnd : s3 % 340282366920938463463374607431768211456 = 0 ∧ fr = false
    · rw [if_pos hcnd] at k5
      rw [if_pos ⟨hcnd.1, hfr'.1 hcnd.2⟩]
      exact k5
    · rw [if_neg hcnd] at k5
      rw [if_neg (fun h => hcnd ⟨h.1, hfr'.2 h.2⟩)]
      exact k5
  · intro ho
    by_cases k1 : z u / dv u + z 3 / dv 3 < 115792089237316195423570985008687907853269984665640564039457584007913129639936
    · by_cases k2 : s1 + z 4 / dv 4 < 115792089237316195423570985008687907853269984665640564039457584007913129639936
      · by_cases k3 : s2 + c < 115792089237316195423570985008687907853269984665640564039457584007913129639936
        · have es : s3 = z u / dv u + z 3 / dv 3 + z 4 / dv 4 + c := by omega
          rw [← es, ← hfr']
          rcases hno ho with h | h | h | h | h
          · exact absurd k1 h
          · exact absurd k2 h
          · exact absurd k3 h
          · exact Or.inl h
          · exact Or.inr h
        · left; omega
      · left; omega
    · left; omega
end Go.Proofs.Qxb6616476a
