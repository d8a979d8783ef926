namespace Go.Proofs.Qxb6616476a

/-- the numerator of the exact sum of three costs -/
def TT (n d : Nat → Int) (u : Nat) : Int := n u * d 3 * d 4 + n 3 * d u * d 4 + n 4 * d u * d 3
def DD (d : Nat → Int) (u : Nat) : Int := d u * d 3 * d 4
/-- the fee is the exact one, rounded up; ok tells that it is below 2^64 -/
def RightAt (n d : Nat → Int) (u : Nat) (fee : Int) (ok : Bool) : Prop :=
  (ok = true → TT n d u ≤ fee * 340282366920938463463374607431768211456 * DD d u ∧ (fee = 0 ∨ (fee - 1) * 340282366920938463463374607431768211456 * DD d u < TT n d u)) ∧
  (ok = false → 18446744073709551615 * 340282366920938463463374607431768211456 * DD d u < TT n d u)
def Top (n d : Nat → Int) (u : Nat) : Prop := u < 3 ∧ ∀ k, k < 3 → n k * d u ≤ n u * d k
def Right (n d : Nat → Int) (fee : Int) (ok : Bool) : Prop := ∃ u, Top n d u ∧ RightAt n d u fee ok

theorem scale_le {a b g : Int} (hg : 0 < g) : g * a ≤ g * b ↔ a ≤ b := ⟨fun h => Int.le_of_mul_le_mul_left h hg, fun h => Int.mul_le_mul_of_nonneg_left h (Int.le_of_lt hg)⟩
theorem scale_lt {a b g : Int} (hg : 0 < g) : g * a < g * b ↔ a < b := ⟨fun h => Int.lt_of_mul_lt_mul_left h (Int.le_of_lt hg), fun h => Int.mul_lt_mul_of_pos_left h hg⟩
theorem RightAt.of_scaled {n d n' d' : Nat → Int} {u u' : Nat} {fee : Int} {ok : Bool} {g g' : Int} (hg : 0 < g) (hg' : 0 < g') (hT : g * TT n d u = g' * TT n' d' u') (hD : g * DD d u = g' * DD d' u') (h : RightAt n d u fee ok) : RightAt n' d' u' fee ok := by
  have e : ∀ c : Int, g * (c * DD d u) = g' * (c * DD d' u') := fun c => by rw [Int.mul_left_comm, hD, Int.mul_left_comm]
  refine ⟨fun ho => ?_, fun ho => ?_⟩
  · obtain ⟨h1, h2⟩ := h.1 ho
    refine ⟨?_, ?_⟩
    · rw [← scale_le hg', ← hT, ← e, scale_le hg]; exact h1
    · rcases h2 with h2 | h2
      · exact Or.inl h2
      · right; rw [← scale_lt hg', ← hT, ← e, scale_lt hg]; exact h2
  · have h1 := h.2 ho
    rw [← scale_lt hg', ← hT, ← e, scale_lt hg]; exact h1
theorem mul_pos3 {a b c : Int} (ha : 0 < a) (hb : 0 < b) (hc : 0 < c) : 0 < a * b * c := Int.mul_pos (Int.mul_pos ha hb) hc
theorem top_scale {n d g : Nat → Int} (hg : ∀ k, 0 < g k) {u : Nat} : Top (fun k => g k * n k) (fun k => g k * d k) u ↔ Top n d u := by
  unfold Top
  refine and_congr Iff.rfl (forall_congr' fun k => imp_congr Iff.rfl ?_)
  have e1 : g k * n k * (g u * d u) = g k * g u * (n k * d u) := by ac_rfl
  have e2 : g u * n u * (g k * d k) = g k * g u * (n u * d k) := by ac_rfl
  simp only [e1, e2]
  exact scale_le (Int.mul_pos (hg k) (hg u))
theorem TT_scale (n d g : Nat → Int) (u : Nat) : TT (fun k => g k * n k) (fun k => g k * d k) u = g u * g 3 * g 4 * TT n d u := by
  unfold TT
  simp only [Int.mul_add]
  congr 1
  · congr 1
    · ac_rfl
    · ac_rfl
  · ac_rfl
theorem DD_scale (d g : Nat → Int) (u : Nat) : DD (fun k => g k * d k) u = g u * g 3 * g 4 * DD d u := by
  unfold DD
  simp only []
  ac_rfl
theorem right_scale {n d g : Nat → Int} (hg : ∀ k, 0 < g k) {fee : Int} {ok : Bool} (h : Right n d fee ok) : Right (fun k => g k * n k) (fun k => g k * d k) fee ok := by
  obtain ⟨u, ht, hr⟩ := h
  refine ⟨u, (top_scale hg).2 ht, ?_⟩
  refine RightAt.of_scaled (g := g u * g 3 * g 4) (g' := 1) (mul_pos3 (hg _) (hg _) (hg _)) (by decide) ?_ ?_ hr
  · rw [Int.one_mul, TT_scale]
  · rw [Int.one_mul, DD_scale]
theorem right_unscale {n d g : Nat → Int} (hg : ∀ k, 0 < g k) {fee : Int} {ok : Bool} (h : Right (fun k => g k * n k) (fun k => g k * d k) fee ok) : Right n d fee ok := by
  obtain ⟨u, ht, hr⟩ := h
  refine ⟨u, (top_scale hg).1 ht, ?_⟩
  refine RightAt.of_scaled (g := 1) (g' := g u * g 3 * g 4) (by decide) (mul_pos3 (hg _) (hg _) (hg _)) ?_ ?_ hr
  · rw [Int.one_mul, TT_scale]
  · rw [Int.one_mul, DD_scale]
/-- every greatest one of the three serves -/
theorem Right.at {n d : Nat → Int} (hd : ∀ k, k < 5 → 0 < d k) {fee : Int} {ok : Bool} (h : Right n d fee ok) {m : Nat} (hm : Top n d m) : RightAt n d m fee ok := by
  obtain ⟨u, ht, hr⟩ := h
  have e : n u * d m = n m * d u := Int.le_antisymm (hm.2 u ht.1) (ht.2 m hm.1)
  refine RightAt.of_scaled (g := d m) (g' := d u) (hd m (by have := hm.1; omega)) (hd u (by have := ht.1; omega)) ?_ ?_ hr
  · unfold TT
    simp only [Int.mul_add]
    congr 1
    · congr 1
      · have e1 : d m * (n u * d 3 * d 4) = n u * d m * (d 3 * d 4) := by ac_rfl
        have e2 : d u * (n m * d 3 * d 4) = n m * d u * (d 3 * d 4) := by ac_rfl
        rw [e1, e2, e]
      · ac_rfl
    · ac_rfl
  · unfold DD; ac_rfl
theorem DD_pos {d : Nat → Int} (hd : ∀ k, k < 5 → 0 < d k) {u : Nat} (hu : u < 3) : 0 < DD d u := mul_pos3 (hd u (by omega)) (hd 3 (by omega)) (hd 4 (by omega))
theorem RightAt.unique {n d : Nat → Int} {u : Nat} (hD : 0 < DD d u) {f1 f2 : Int} {o1 o2 : Bool} (l1 : 0 ≤ f1 ∧ f1 < 18446744073709551616) (l2 : 0 ≤ f2 ∧ f2 < 18446744073709551616) (h1 : RightAt n d u f1 o1) (h2 : RightAt n d u f2 o2) : o1 = o2 ∧ (o1 = true → f1 = f2) := by
  have mono : ∀ a b : Int, a ≤ b → a * 340282366920938463463374607431768211456 * DD d u ≤ b * 340282366920938463463374607431768211456 * DD d u := fun a b h => Int.mul_le_mul_of_nonneg_right (by omega) (Int.le_of_lt hD)
  have key : ∀ f g : Int, f ≤ 18446744073709551615 → TT n d u ≤ f * 340282366920938463463374607431768211456 * DD d u → 18446744073709551615 * 340282366920938463463374607431768211456 * DD d u < TT n d u → False := fun f g hf ha hb => by
    have := mono f 18446744073709551615 hf
    omega
  have inj : ∀ f g : Int, 0 ≤ f → 0 ≤ g → f < g → TT n d u ≤ f * 340282366920938463463374607431768211456 * DD d u → (g = 0 ∨ (g - 1) * 340282366920938463463374607431768211456 * DD d u < TT n d u) → False := fun f g hf hg hlt ha hb => by
    rcases hb with hb | hb
    · omega
    · have := mono f (g - 1) (by omega)
      omega
  cases o1 <;> cases o2
  · exact ⟨rfl, by simp⟩
  · exact absurd (key f2 0 (by omega) (h2.1 rfl).1 (h1.2 rfl)) id
  · exact absurd (key f1 0 (by omega) (h1.1 rfl).1 (h2.2 rfl)) id
  · refine ⟨rfl, fun _ => ?_⟩
    have a1 := h1.1 rfl
    have a2 := h2.1 rfl
    by_cases hlt : f1 < f2
    · exact absurd (inj f1 f2 l1.1 l2.1 hlt a1.1 a2.2) id
    · by_cases hgt : f2 < f1
      · exact absurd (inj f2 f1 l2.1 l1.1 hgt a2.1 a1.2) id
      · omega

/-- one of three is a greatest one -/
theorem exists_top {n d : Nat → Int} (hd : ∀ k, k < 3 → 0 < d k) : ∃ u, Top n d u := by
  have tr : ∀ a b c : Nat, a < 3 → b < 3 → c < 3 → n a * d b ≤ n b * d a → n b * d c ≤ n c * d b → n a * d c ≤ n c * d a := fun a b c ha hb hc h1 h2 => by
    rw [← scale_le (hd b hb)]
    have e1 : d b * (n a * d c) = d c * (n a * d b) := by ac_rfl
    have e2 : d c * (n b * d a) = d a * (n b * d c) := by ac_rfl
    have e3 : d b * (n c * d a) = d a * (n c * d b) := by ac_rfl
    rw [e1, e3]
    have h3 := (scale_le (hd c hc)).2 h1
    have h4 := (scale_le (hd a ha)).2 h2
    rw [e2] at h3
    exact Int.le_trans h3 h4
  have all : ∀ u, (n 0 * d u ≤ n u * d 0) → (n 1 * d u ≤ n u * d 1) → (n 2 * d u ≤ n u * d 2) → ∀ k, k < 3 → n k * d u ≤ n u * d k := fun u h0 h1 h2 k hk => by
    rcases Nat.lt_or_ge k 1 with h | h
    · have : k = 0 := by omega
      subst this; exact h0
    · rcases Nat.lt_or_ge k 2 with h' | h'
      · have : k = 1 := by omega
        subst this; exact h1
      · have : k = 2 := by omega
        subst this; exact h2
  rcases Int.le_total (n 0 * d 1) (n 1 * d 0) with h01 | h01
  · rcases Int.le_total (n 1 * d 2) (n 2 * d 1) with h12 | h12
    · exact ⟨2, by omega, all 2 (tr 0 1 2 (by omega) (by omega) (by omega) h01 h12) h12 (Int.le_refl _)⟩
    · exact ⟨1, by omega, all 1 h01 (Int.le_refl _) h12⟩
  · rcases Int.le_total (n 0 * d 2) (n 2 * d 0) with h02 | h02
    · exact ⟨2, by omega, all 2 h02 (tr 1 0 2 (by omega) (by omega) (by omega) h01 h02) (Int.le_refl _)⟩
    · exact ⟨0, by omega, all 0 (Int.le_refl _) h01 h02⟩

theorem TT_nonneg {n d : Nat → Int} (hn : ∀ k, k < 5 → 0 ≤ n k) (hd : ∀ k, k < 5 → 0 < d k) {u : Nat} (hu : u < 3) : 0 ≤ TT n d u := by
  have a := hn u (by omega); have b := hn 3 (by omega); have c := hn 4 (by omega)
  have a' := Int.le_of_lt (hd u (by omega)); have b' := Int.le_of_lt (hd 3 (by omega)); have c' := Int.le_of_lt (hd 4 (by omega))
  have p1 := Int.mul_nonneg (Int.mul_nonneg a b') c'
  have p2 := Int.mul_nonneg (Int.mul_nonneg b a') c'
  have p3 := Int.mul_nonneg (Int.mul_nonneg c a') b'
  unfold TT
  omega
/-- a numerator of 2^256 or more: the fee is past 2^64 -/
theorem right_of_big {n d : Nat → Int} (hn : ∀ k, k < 5 → 0 ≤ n k) (hd : ∀ k, k < 5 → 0 < d k ∧ d k < 18446744073709551616) {j : Nat} (hj : j < 5) (hb : 115792089237316195423570985008687907853269984665640564039457584007913129639936 ≤ n j) (fee : Int) : Right n d fee false := by
  obtain ⟨u, ht⟩ := exists_top (n := n) (d := d) (fun k hk => (hd k (by omega)).1)
  have hu := ht.1
  refine ⟨u, ht, by simp, fun _ => ?_⟩
  have hn' := hn u (by omega)
  have a := hn u (by omega); have b := hn 3 (by omega); have c := hn 4 (by omega)
  have du := hd u (by omega); have d3 := hd 3 (by omega); have d4 := hd 4 (by omega); have dj := hd j hj
  have p1 := Int.mul_nonneg (Int.mul_nonneg a (Int.le_of_lt d3.1)) (Int.le_of_lt d4.1)
  have p2 := Int.mul_nonneg (Int.mul_nonneg b (Int.le_of_lt du.1)) (Int.le_of_lt d4.1)
  have p3 := Int.mul_nonneg (Int.mul_nonneg c (Int.le_of_lt du.1)) (Int.le_of_lt d3.1)
  -- every numerator that is big by itself, over its own divisor
  have key : ∀ x y : Int, 0 < y → y < 18446744073709551616 → 115792089237316195423570985008687907853269984665640564039457584007913129639936 ≤ x → 18446744073709551615 * 340282366920938463463374607431768211456 * y < x := fun x y h1 h2 h3 => by omega
  have bigU : 18446744073709551615 * 340282366920938463463374607431768211456 * d u < n u → 18446744073709551615 * 340282366920938463463374607431768211456 * DD d u < TT n d u := fun h => by
    have := Int.mul_lt_mul_of_pos_right h (Int.mul_pos d3.1 d4.1)
    unfold DD TT
    have e1 : 18446744073709551615 * 340282366920938463463374607431768211456 * d u * (d 3 * d 4) = 18446744073709551615 * 340282366920938463463374607431768211456 * (d u * d 3 * d 4) := by ac_rfl
    have e2 : n u * (d 3 * d 4) = n u * d 3 * d 4 := by ac_rfl
    rw [e1, e2] at this
    omega
  by_cases h3 : j < 3
  · apply bigU
    have h := ht.2 j h3
    have k := key (n j) (d j) dj.1 dj.2 hb
    have k2 := Int.mul_lt_mul_of_pos_right k du.1
    rw [← scale_lt dj.1]
    have e1 : 18446744073709551615 * 340282366920938463463374607431768211456 * d j * d u = d j * (18446744073709551615 * 340282366920938463463374607431768211456 * d u) := by ac_rfl
    rw [e1] at k2
    have e2 : n u * d j = d j * n u := Int.mul_comm _ _
    omega
  · have k := key (n j) (d j) dj.1 dj.2 hb
    by_cases h4 : j = 3
    · subst h4
      have := Int.mul_lt_mul_of_pos_right k (Int.mul_pos du.1 d4.1)
      unfold DD TT
      have e1 : 18446744073709551615 * 340282366920938463463374607431768211456 * d 3 * (d u * d 4) = 18446744073709551615 * 340282366920938463463374607431768211456 * (d u * d 3 * d 4) := by ac_rfl
      have e2 : n 3 * (d u * d 4) = n 3 * d u * d 4 := by ac_rfl
      rw [e1, e2] at this
      omega
    · have : j = 4 := by omega
      subst this
      have := Int.mul_lt_mul_of_pos_right k (Int.mul_pos du.1 d3.1)
      unfold DD TT
      have e1 : 18446744073709551615 * 340282366920938463463374607431768211456 * d 4 * (d u * d 3) = 18446744073709551615 * 340282366920938463463374607431768211456 * (d u * d 3 * d 4) := by ac_rfl
      have e2 : n 4 * (d u * d 3) = n 4 * d u * d 3 := by ac_rfl
      rw [e1, e2] at this
      omega
/-- the sum of the wholes and of the fractions is the exact sum -/
theorem TT_sum {n d : Nat → Int} {u : Nat} {W r : Nat → Int} (h : ∀ k, k < 5 → n k = W k * d k + r k) (hu : u < 3) {c F : Int} (hf : r u * d 3 * d 4 + r 3 * d u * d 4 + r 4 * d u * d 3 = c * DD d u + F) :
    TT n d u = (W u + W 3 + W 4 + c) * DD d u + F := by
  unfold TT
  rw [h u (by omega), h 3 (by omega), h 4 (by omega)]
  have e1 : (W u * d u + r u) * d 3 * d 4 = W u * DD d u + r u * d 3 * d 4 := by unfold DD; rw [Int.add_mul, Int.add_mul]; congr 1; ac_rfl
  have e2 : (W 3 * d 3 + r 3) * d u * d 4 = W 3 * DD d u + r 3 * d u * d 4 := by unfold DD; rw [Int.add_mul, Int.add_mul]; congr 1; ac_rfl
  have e3 : (W 4 * d 4 + r 4) * d u * d 3 = W 4 * DD d u + r 4 * d u * d 3 := by unfold DD; rw [Int.add_mul, Int.add_mul]; congr 1; ac_rfl
  rw [e1, e2, e3, Int.add_mul, Int.add_mul, Int.add_mul]
  omega
/-- the sum in hand: its fee -/
theorem rightAt_of_sum {n d : Nat → Int} {u : Nat} {s F : Int} (hD : 0 < DD d u) (hT : TT n d u = s * DD d u + F) (hF : 0 ≤ F ∧ F < DD d u) {fee : Int} {ok : Bool}
    (hs : 0 ≤ s)
    (ho : ok = true → 0 ≤ fee ∧ (if s % 340282366920938463463374607431768211456 = 0 ∧ F = 0 then fee = s / 340282366920938463463374607431768211456 else fee = s / 340282366920938463463374607431768211456 + 1))
    (hn : ok = false → 6277101735386680763835789423207666416102355444464034512896 ≤ s ∨ (s / 340282366920938463463374607431768211456 = 18446744073709551615 ∧ ¬ (s % 340282366920938463463374607431768211456 = 0 ∧ F = 0))) : RightAt n d u fee ok := by
  have mono : ∀ a b : Int, a ≤ b → a * DD d u ≤ b * DD d u := fun a b h => Int.mul_le_mul_of_nonneg_right h (Int.le_of_lt hD)
  have monoS : ∀ a b : Int, a + 1 ≤ b → a * DD d u + DD d u ≤ b * DD d u := fun a b h => by
    have := mono (a + 1) b h
    rw [Int.add_mul, Int.one_mul] at this
    exact this
  refine ⟨fun h => ?_, fun h => ?_⟩
  · obtain ⟨h0, h1⟩ := ho h
    rw [hT]
    by_cases hz : s % 340282366920938463463374607431768211456 = 0 ∧ F = 0
    · rw [if_pos hz] at h1
      have e : s = fee * 340282366920938463463374607431768211456 := by omega
      rw [hz.2, ← e]
      refine ⟨by omega, ?_⟩
      by_cases h2 : fee = 0
      · exact Or.inl h2
      · right
        have := monoS ((fee - 1) * 340282366920938463463374607431768211456) s (by omega)
        omega
    · rw [if_neg hz] at h1
      refine ⟨?_, Or.inr ?_⟩
      · have := monoS s (fee * 340282366920938463463374607431768211456) (by omega)
        omega
      · by_cases h2 : s % 340282366920938463463374607431768211456 = 0
        · have : F ≠ 0 := fun h => hz ⟨h2, h⟩
          have := mono ((fee - 1) * 340282366920938463463374607431768211456) s (by omega)
          omega
        · have := monoS ((fee - 1) * 340282366920938463463374607431768211456) s (by omega)
          omega
  · rw [hT]
    rcases hn h with h1 | ⟨h1, h2⟩
    · have := monoS (18446744073709551615 * 340282366920938463463374607431768211456) s (by omega)
      omega
    · by_cases h3 : s % 340282366920938463463374607431768211456 = 0
      · have : F ≠ 0 := fun h => h2 ⟨h3, h⟩
        have := mono (18446744073709551615 * 340282366920938463463374607431768211456) s (by omega)
        omega
      · have := monoS (18446744073709551615 * 340282366920938463463374607431768211456) s (by omega)
        omega
end Go.Proofs.Qxb6616476a
