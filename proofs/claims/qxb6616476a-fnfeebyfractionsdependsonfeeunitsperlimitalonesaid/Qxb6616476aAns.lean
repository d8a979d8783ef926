import Derived.Test.Qxb6616476aOps
namespace Go.Proofs.Qxb6616476a
open Go.RowKit Go.Lib

set_option linter.unusedSimpArgs false
attribute [local irreducible] NA
theorem Try.size76 : (Try.prog.info? 76).map (·.size) = some 120 := by kernel_rfl
theorem size_setCells (b : Nat) : ∀ (vs : List Value) (o : Nat) (w : World), (w.setCells b o vs).heap.size = w.heap.size
  | [], _, _ => rfl
  | v :: vs, o, w => by rw [World.setCells, size_setCells b vs (o + 1)]; simp [World.setCell]
theorem range_below {w w' : World} {b o : Nat} {cs : List Value} {B : Nat} (h : w.rangeAt b o cs) (hb : b < B) (hw : Below B w w') : w'.rangeAt b o cs := fun j v hv => by rw [hw.cell (p := ⟨b, o + j, none⟩) hb]; exact h j v hv
/-- what lies in memory ahead of the first loop -/
def Env (n bP bF : Nat) (rh rl A L : Nat → Int) (P F : Int) (w : World) : Prop :=
  (∀ i, i < 4 → w.cell? ⟨n, i * 2, none⟩ = some (.int .u64 (rh i)) ∧ w.cell? ⟨n, i * 2 + 1, none⟩ = some (.int .u64 (rl i))) ∧ (∀ i, i < 5 → w.cell? ⟨n + 1 + 1, i, none⟩ = some (.int .u64 (A i))) ∧ (∀ i, i < 5 → w.cell? ⟨n + 1 + 1 + 1, i, none⟩ = some (.int .u64 (L i))) ∧
  w.rangeAt bP 0 (NA P).toList ∧ w.rangeAt bF 0 (NA F).toList ∧ n + 1 + 1 + 1 < w.heap.size ∧ bP < w.heap.size ∧ bF < w.heap.size
theorem Env.mono {n bP bF : Nat} {rh rl A L : Nat → Int} {P F : Int} {w w' : World} {B : Nat} (h : Env n bP bF rh rl A L P F w) (hw : Below B w w') (h1 : n + 1 + 1 + 1 < B) (h2 : bP < B) (h3 : bF < B) : Env n bP bF rh rl A L P F w' := by
  obtain ⟨e1, e2, e3, e4, e5, e6, e7, e8⟩ := h
  have hs := hw.size
  refine ⟨fun i hi => ?_, fun i hi => ?_, fun i hi => ?_, range_below e4 h2 hw, range_below e5 h3 hw, by omega, by omega, by omega⟩
  · rw [hw.cell (p := ⟨n, i * 2, none⟩) (by show n < B; omega), hw.cell (p := ⟨n, i * 2 + 1, none⟩) (by show n < B; omega)]
    exact e1 i hi
  · rw [hw.cell (p := ⟨n + 1 + 1, i, none⟩) (by show n + 1 + 1 < B; omega)]
    exact e2 i hi
  · rw [hw.cell (p := ⟨n + 1 + 1 + 1, i, none⟩) (by show n + 1 + 1 + 1 < B; omega)]
    exact e3 i hi
/-- a dimension's numerator, as the law reckons it -/
def NN (rh rl A : Nat → Int) (P F : Int) (i : Nat) : Int := V2 (rh (min i 3)) (rl (min i 3)) * A i * P * F
theorem there_new24 (w : World) (x : Int) (Z : Array Value) (hz : Z.size = 24) : (w.alloc (.cells Z 73)).there w.heap.size 0 (NA x).size := by
  have h := there_new w 73 Z
  rw [hz] at h
  rw [NA_size]
  exact h
/-- a number is laid into a new box -/
theorem laid (w : World) (x : Int) (Z : Array Value) (hz : Z.size = 24) : ((w.alloc (.cells Z 73)).setCells w.heap.size 0 (NA x).toList).rangeAt w.heap.size 0 (NA x).toList ∧ Below w.heap.size w ((w.alloc (.cells Z 73)).setCells w.heap.size 0 (NA x).toList) ∧ w.heap.size < ((w.alloc (.cells Z 73)).setCells w.heap.size 0 (NA x).toList).heap.size := by
  have ht := there_new w 73 Z
  rw [hz] at ht
  have hb : Below w.heap.size w (w.alloc (.cells Z 73)) := (Below.refl _ _).alloc (Nat.le_refl _) _
  refine ⟨World.rangeAt_setCells_same _ _ _ _ (by rw [NA_len]; exact ht), below_setCells (Nat.le_refl _) _ _ _ hb, ?_⟩
  rw [size_setCells]
  simp

theorem there_sub {w : World} {b k : Nat} (h : w.there b 0 120) (hk : k < 5) : w.there b (k * 24) 24 := fun j hj => by
  have := h (k * 24 + j) (by omega)
  rw [Nat.zero_add] at this
  exact this
/-- the first loop's state behind k rounds -/
def LoopI (w : World) (bP bF nb : Nat) (rh rl A L : Nat → Int) (P F : Int) (k : Nat) (wx : World) : Prop :=
  (Below w.heap.size w wx ∧ Env w.heap.size bP bF rh rl A L P F wx ∧ wx.there nb 0 120 ∧ wx.there (nb + 1) 0 120 ∧ nb + 1 < wx.heap.size ∧ (w.heap.size + 1 + 1 + 1 < nb ∧ bP < nb ∧ bF < nb)) ∧ ∀ i, i < k → wx.rangeAt nb (i * 24) (NA (NN rh rl A P F i)).toList ∧ wx.rangeAt (nb + 1) (i * 24) (NA (L i)).toList
theorem LoopI.mono {w : World} {bP bF nb : Nat} {rh rl A L : Nat → Int} {P F : Int} {k : Nat} {wx wx' : World} (h : LoopI w bP bF nb rh rl A L P F k wx) (hb : Below wx.heap.size wx wx') : LoopI w bP bF nb rh rl A L P F k wx' := by
  obtain ⟨⟨a1, a2, a3, a4, a5, a6, a7, a8⟩, h2⟩ := h
  have hs := hb.size
  exact ⟨⟨a1.trans (hb.mono a1.size), a2.mono hb (by omega) (by omega) (by omega), there_below a3 (by omega) hb, there_below a4 (by omega) hb, by omega, a6, a7, a8⟩, fun i hi => ⟨range_below (h2 i hi).1 (by omega) hb, range_below (h2 i hi).2 (by omega) hb⟩⟩
theorem LoopI.fresh {w : World} {bP bF nb : Nat} {rh rl A L : Nat → Int} {P F : Int} {k : Nat} {wx : World} (h : LoopI w bP bF nb rh rl A L P F k wx) {b : Nat} (hb : nb + 1 < b) (vs : List Value) : LoopI w bP bF nb rh rl A L P F k (wx.setCells b 0 vs) := by
  obtain ⟨⟨a1, a2, a3, a4, a5, a6, a7, a8⟩, h2⟩ := h
  refine ⟨⟨below_setCells (by omega) _ _ _ a1, a2.mono (below_setCells (Nat.le_refl _) _ _ _ (Below.refl b wx)) (by omega) (by omega) (by omega), World.there_setCells a3 _ _ _, World.there_setCells a4 _ _ _, by rw [size_setCells]; exact a5, a6, a7, a8⟩, fun i hi => ⟨World.rangeAt_setCells_apart (h2 i hi).1 _ _ _ (Or.inl (by omega)), World.rangeAt_setCells_apart (h2 i hi).2 _ _ _ (Or.inl (by omega))⟩⟩
theorem LoopI.putN {w : World} {bP bF nb : Nat} {rh rl A L : Nat → Int} {P F : Int} {k : Nat} {wx : World} (h : LoopI w bP bF nb rh rl A L P F k wx) (hk : k < 5) (x : Int) : LoopI w bP bF nb rh rl A L P F k (wx.setCells nb (k * 24) (NA x).toList) ∧ (wx.setCells nb (k * 24) (NA x).toList).rangeAt nb (k * 24) (NA x).toList := by
  obtain ⟨⟨a1, a2, a3, a4, a5, a6, a7, a8⟩, h2⟩ := h
  refine ⟨⟨⟨below_setCells (by omega) _ _ _ a1, a2.mono (below_setCells (Nat.le_refl _) _ _ _ (Below.refl nb wx)) (by omega) (by omega) (by omega), World.there_setCells a3 _ _ _, World.there_setCells a4 _ _ _, by rw [size_setCells]; exact a5, a6, a7, a8⟩, fun i hi => ⟨World.rangeAt_setCells_apart (h2 i hi).1 _ _ _ (Or.inr (Or.inl (by rw [NA_len]; omega))), World.rangeAt_setCells_apart (h2 i hi).2 _ _ _ (Or.inl (by omega))⟩⟩, ?_⟩
  exact World.rangeAt_setCells_same _ _ _ _ (by rw [NA_len]; exact there_sub a3 hk)
theorem LoopI.putL {w : World} {bP bF nb : Nat} {rh rl A L : Nat → Int} {P F : Int} {k : Nat} {wx : World} (h : LoopI w bP bF nb rh rl A L P F k wx) (hk : k < 5) (hn : wx.rangeAt nb (k * 24) (NA (NN rh rl A P F k)).toList) : LoopI w bP bF nb rh rl A L P F (k + 1) (wx.setCells (nb + 1) (k * 24) (NA (L k)).toList) := by
  obtain ⟨⟨a1, a2, a3, a4, a5, a6, a7, a8⟩, h2⟩ := h
  refine ⟨⟨below_setCells (by omega) _ _ _ a1, a2.mono (below_setCells (Nat.le_refl _) _ _ _ (Below.refl (nb + 1) wx)) (by omega) (by omega) (by omega), World.there_setCells a3 _ _ _, World.there_setCells a4 _ _ _, by rw [size_setCells]; exact a5, a6, a7, a8⟩, fun i hi => ?_⟩
  by_cases e : i = k
  · subst e
    exact ⟨World.rangeAt_setCells_apart hn _ _ _ (Or.inl (by omega)), World.rangeAt_setCells_same _ _ _ _ (by rw [NA_len]; exact there_sub a4 hk)⟩
  · exact ⟨World.rangeAt_setCells_apart (h2 i (by omega)).1 _ _ _ (Or.inl (by omega)), World.rangeAt_setCells_apart (h2 i (by omega)).2 _ _ _ (Or.inr (Or.inl (by rw [NA_len]; omega)))⟩

/-- sizes: every number of the law stays far below 2^768 -/
theorem small_mul {x y : Int} {p q : Nat} (hx : 0 ≤ x ∧ x < BB p) (hy : 0 ≤ y ∧ y < BB q) : 0 ≤ x * y ∧ x * y < BB (p + q) := by
  refine ⟨Int.mul_nonneg hx.1 hy.1, ?_⟩
  rw [BB_add]
  have h1 : x * y ≤ x * BB q := Int.mul_le_mul_of_nonneg_left (Int.le_of_lt hy.2) hx.1
  have h2 : x * BB q < BB p * BB q := Int.mul_lt_mul_of_pos_right hx.2 (BB_pos q)
  omega
theorem BB_mono {p q : Nat} (h : p ≤ q) : BB p ≤ BB q := by
  obtain ⟨r, rfl⟩ : ∃ r, q = p + r := ⟨q - p, by omega⟩
  rw [BB_add]
  have h1 := BB_pos p
  have h2 := BB_pos r
  have := Int.mul_le_mul_of_nonneg_left (show 1 ≤ BB r by omega) (Int.le_of_lt h1)
  omega
theorem small_up {x : Int} {p q : Nat} (hx : 0 ≤ x ∧ x < BB p) (h : p ≤ q) : 0 ≤ x ∧ x < BB q := ⟨hx.1, Int.lt_of_lt_of_le hx.2 (BB_mono h)⟩
theorem small_add {x y : Int} {p : Nat} (hx : 0 ≤ x ∧ x < BB p) (hy : 0 ≤ y ∧ y < BB p) : 0 ≤ x + y ∧ x + y < BB (p + 1) := by
  rw [BB_succ]
  omega
theorem small_word {x : Int} (h : Word x) : 0 ≤ x ∧ x < BB 2 := by
  obtain ⟨h1, h2⟩ := h
  have : BB 2 = 18446744073709551616 := by decide
  omega
theorem small_v2 {x y : Int} (hx : Word x) (hy : Word y) : 0 ≤ V2 x y ∧ V2 x y < BB 4 := by
  obtain ⟨h1, h2⟩ := hx
  obtain ⟨h3, h4⟩ := hy
  have : BB 4 = 340282366920938463463374607431768211456 := by decide
  unfold V2
  omega
theorem small_NN {rh rl A : Nat → Int} {ph pl F : Int} (hr : ∀ i, Word (rh i) ∧ Word (rl i)) (hA : ∀ i, Word (A i)) (hp : Word ph ∧ Word pl) (hF : Word F) (i : Nat) : 0 ≤ NN rh rl A (V2 ph pl) F i ∧ NN rh rl A (V2 ph pl) F i < BB 12 :=
  small_mul (small_mul (small_mul (small_v2 (hr _).1 (hr _).2) (small_word (hA i))) (small_v2 hp.1 hp.2)) (small_word hF)
theorem frac_trans {na nb nc da db dc : Int} (hb : 0 < db) (ha : 0 ≤ da) (hc : 0 ≤ dc) (h1 : na * db ≤ nb * da) (h2 : nb * dc ≤ nc * db) : na * dc ≤ nc * da := by
  rw [← scale_le hb]
  have e1 : db * (na * dc) = dc * (na * db) := by ac_rfl
  have e2 : dc * (nb * da) = da * (nb * dc) := by ac_rfl
  have e3 : db * (nc * da) = da * (nc * db) := by ac_rfl
  rw [e1, e3]
  have h3 := Int.mul_le_mul_of_nonneg_left h1 hc
  have h4 := Int.mul_le_mul_of_nonneg_left h2 ha
  rw [e2] at h3
  exact Int.le_trans h3 h4
theorem cmpI_pos {x y : Int} : 0 < cmpI x y ↔ y < x := by
  unfold cmpI
  by_cases h1 : x = y
  · simp [h1]
  · by_cases h2 : x < y
    · simp [h1, h2]; omega
    · simp [h1, h2]; omega
theorem cmpI_neg {x y : Int} : cmpI x y < 0 ↔ x < y := by
  unfold cmpI
  by_cases h1 : x = y
  · simp [h1]
  · by_cases h2 : x < y
    · simp [h1, h2]
    · simp [h1, h2]

set_option maxRecDepth 100000 in
set_option maxHeartbeats 4000000 in
theorem ans_any (rh rl A L : Nat → Int) (ph pl F fee : Int) (ok : Bool) (hr : ∀ i, Word (rh i) ∧ Word (rl i)) (hA : ∀ i, Word (A i)) (hL : ∀ i, Word (L i)) (hLp : ∀ i, i < 5 → 0 < L i) (hp : Word ph ∧ Word pl) (hF : Word F) (hfee : Word fee) (hright : Right (NN rh rl A (V2 ph pl) F) L fee ok) (w : World) :
    Calls Try.prog 10 #[.agg #[.int .u64 (rh 0), .int .u64 (rl 0), .int .u64 (rh 1), .int .u64 (rl 1), .int .u64 (rh 2), .int .u64 (rl 2), .int .u64 (rh 3), .int .u64 (rl 3)], .agg #[.int .u64 ph, .int .u64 pl], .agg #[.int .u64 (A 0), .int .u64 (A 1), .int .u64 (A 2), .int .u64 (A 3), .int .u64 (A 4)], .agg #[.int .u64 (L 0), .int .u64 (L 1), .int .u64 (L 2), .int .u64 (L 3), .int .u64 (L 4)], .int .u64 F, .int .u64 fee, .bool ok] w fun e w' => e = .returned (.bool true) ∧ Below w.heap.size w w' := by
  have HW : Hid ((∀ i, Word (rh i) ∧ Word (rl i)) ∧ (∀ i, Word (A i)) ∧ (∀ i, Word (L i)) ∧ (Word ph ∧ Word pl) ∧ Word F ∧ Word fee) := ⟨hr, hA, hL, hp, hF, hfee⟩
  have HQ : Hid ((∀ i, i < 5 → 0 < L i) ∧ Right (NN rh rl A (V2 ph pl) F) L fee ok) := ⟨hLp, hright⟩
  clear hr hA hL hp hF hfee hLp hright
  have HB0 : Hid (Blk ((((w.alloc (.cells #[.int .u64 (rh 0), .int .u64 (rl 0), .int .u64 (rh 1), .int .u64 (rl 1), .int .u64 (rh 2), .int .u64 (rl 2), .int .u64 (rh 3), .int .u64 (rl 3)] 24)).alloc (.cells #[.int .u64 ph, .int .u64 pl] 23)).alloc (.cells #[.int .u64 (A 0), .int .u64 (A 1), .int .u64 (A 2), .int .u64 (A 3), .int .u64 (A 4)] 25)).alloc (.cells #[.int .u64 (L 0), .int .u64 (L 1), .int .u64 (L 2), .int .u64 (L 3), .int .u64 (L 4)] 25)) w.heap.size #[.int .u64 (rh 0), .int .u64 (rl 0), .int .u64 (rh 1), .int .u64 (rl 1), .int .u64 (rh 2), .int .u64 (rl 2), .int .u64 (rh 3), .int .u64 (rl 3)] 24 ∧ Blk ((((w.alloc (.cells #[.int .u64 (rh 0), .int .u64 (rl 0), .int .u64 (rh 1), .int .u64 (rl 1), .int .u64 (rh 2), .int .u64 (rl 2), .int .u64 (rh 3), .int .u64 (rl 3)] 24)).alloc (.cells #[.int .u64 ph, .int .u64 pl] 23)).alloc (.cells #[.int .u64 (A 0), .int .u64 (A 1), .int .u64 (A 2), .int .u64 (A 3), .int .u64 (A 4)] 25)).alloc (.cells #[.int .u64 (L 0), .int .u64 (L 1), .int .u64 (L 2), .int .u64 (L 3), .int .u64 (L 4)] 25)) (w.heap.size + 1 + 1) #[.int .u64 (A 0), .int .u64 (A 1), .int .u64 (A 2), .int .u64 (A 3), .int .u64 (A 4)] 25 ∧ Blk ((((w.alloc (.cells #[.int .u64 (rh 0), .int .u64 (rl 0), .int .u64 (rh 1), .int .u64 (rl 1), .int .u64 (rh 2), .int .u64 (rl 2), .int .u64 (rh 3), .int .u64 (rl 3)] 24)).alloc (.cells #[.int .u64 ph, .int .u64 pl] 23)).alloc (.cells #[.int .u64 (A 0), .int .u64 (A 1), .int .u64 (A 2), .int .u64 (A 3), .int .u64 (A 4)] 25)).alloc (.cells #[.int .u64 (L 0), .int .u64 (L 1), .int .u64 (L 2), .int .u64 (L 3), .int .u64 (L 4)] 25)) (w.heap.size + 1 + 1 + 1) #[.int .u64 (L 0), .int .u64 (L 1), .int .u64 (L 2), .int .u64 (L 3), .int .u64 (L 4)] 25 ∧ Below w.heap.size w ((((w.alloc (.cells #[.int .u64 (rh 0), .int .u64 (rl 0), .int .u64 (rh 1), .int .u64 (rl 1), .int .u64 (rh 2), .int .u64 (rl 2), .int .u64 (rh 3), .int .u64 (rl 3)] 24)).alloc (.cells #[.int .u64 ph, .int .u64 pl] 23)).alloc (.cells #[.int .u64 (A 0), .int .u64 (A 1), .int .u64 (A 2), .int .u64 (A 3), .int .u64 (A 4)] 25)).alloc (.cells #[.int .u64 (L 0), .int .u64 (L 1), .int .u64 (L 2), .int .u64 (L 3), .int .u64 (L 4)] 25)) ∧ ((((w.alloc (.cells #[.int .u64 (rh 0), .int .u64 (rl 0), .int .u64 (rh 1), .int .u64 (rl 1), .int .u64 (rh 2), .int .u64 (rl 2), .int .u64 (rh 3), .int .u64 (rl 3)] 24)).alloc (.cells #[.int .u64 ph, .int .u64 pl] 23)).alloc (.cells #[.int .u64 (A 0), .int .u64 (A 1), .int .u64 (A 2), .int .u64 (A 3), .int .u64 (A 4)] 25)).alloc (.cells #[.int .u64 (L 0), .int .u64 (L 1), .int .u64 (L 2), .int .u64 (L 3), .int .u64 (L 4)] 25)).heap.size = w.heap.size + 1 + 1 + 1 + 1) := by
    have h3 := Blk.new ((w.alloc (.cells #[.int .u64 (rh 0), .int .u64 (rl 0), .int .u64 (rh 1), .int .u64 (rl 1), .int .u64 (rh 2), .int .u64 (rl 2), .int .u64 (rh 3), .int .u64 (rl 3)] 24)).alloc (.cells #[.int .u64 ph, .int .u64 pl] 23)) #[.int .u64 (A 0), .int .u64 (A 1), .int .u64 (A 2), .int .u64 (A 3), .int .u64 (A 4)] 25
    have h4 := Blk.new (((w.alloc (.cells #[.int .u64 (rh 0), .int .u64 (rl 0), .int .u64 (rh 1), .int .u64 (rl 1), .int .u64 (rh 2), .int .u64 (rl 2), .int .u64 (rh 3), .int .u64 (rl 3)] 24)).alloc (.cells #[.int .u64 ph, .int .u64 pl] 23)).alloc (.cells #[.int .u64 (A 0), .int .u64 (A 1), .int .u64 (A 2), .int .u64 (A 3), .int .u64 (A 4)] 25)) #[.int .u64 (L 0), .int .u64 (L 1), .int .u64 (L 2), .int .u64 (L 3), .int .u64 (L 4)] 25
    simp only [World.size_alloc] at h3 h4
    exact ⟨(((Blk.new w #[.int .u64 (rh 0), .int .u64 (rl 0), .int .u64 (rh 1), .int .u64 (rl 1), .int .u64 (rh 2), .int .u64 (rl 2), .int .u64 (rh 3), .int .u64 (rl 3)] 24).alloc _).alloc _).alloc _, h3.alloc _, h4, by go_grown, by simp only [World.size_alloc]⟩
  have HZ : Hid ((#[.int .u32 0, .int .u32 0, .int .u32 0, .int .u32 0, .int .u32 0, .int .u32 0, .int .u32 0, .int .u32 0, .int .u32 0, .int .u32 0, .int .u32 0, .int .u32 0, .int .u32 0, .int .u32 0, .int .u32 0, .int .u32 0, .int .u32 0, .int .u32 0, .int .u32 0, .int .u32 0, .int .u32 0, .int .u32 0, .int .u32 0, .int .u32 0] : Array Value).size = 24) := rfl
  go_enter Try.func10, Try.ntmps10
  go_wp2_with fail
  generalize ((((w.alloc (.cells #[.int .u64 (rh 0), .int .u64 (rl 0), .int .u64 (rh 1), .int .u64 (rl 1), .int .u64 (rh 2), .int .u64 (rl 2), .int .u64 (rh 3), .int .u64 (rl 3)] 24)).alloc (.cells #[.int .u64 ph, .int .u64 pl] 23)).alloc (.cells #[.int .u64 (A 0), .int .u64 (A 1), .int .u64 (A 2), .int .u64 (A 3), .int .u64 (A 4)] 25)).alloc (.cells #[.int .u64 (L 0), .int .u64 (L 1), .int .u64 (L 2), .int .u64 (L 3), .int .u64 (L 4)] 25)) = W0 at *
  refine (of128 ph pl HW.out.2.2.2.1.1 HW.out.2.2.2.1.2 _).mono ?_
  rintro e w1 ⟨rfl, hb1⟩
  have HB1 : Hid (Below W0.heap.size W0 w1) := hb1
  clear hb1
  go_upto_region 2 with (refine wpList_store_mid rfl 73 (.tmp 15) (.tmp 31) rfl w1.heap.size 0 (NA (V2 ph pl)) rfl rfl (there_new24 w1 _ _ HZ.out) (NA_info _) (NA_ones _) ?_)
  obtain ⟨x1, x2, x3⟩ := laid w1 (V2 ph pl) #[.int .u32 0, .int .u32 0, .int .u32 0, .int .u32 0, .int .u32 0, .int .u32 0, .int .u32 0, .int .u32 0, .int .u32 0, .int .u32 0, .int .u32 0, .int .u32 0, .int .u32 0, .int .u32 0, .int .u32 0, .int .u32 0, .int .u32 0, .int .u32 0, .int .u32 0, .int .u32 0, .int .u32 0, .int .u32 0, .int .u32 0, .int .u32 0] HZ.out
  generalize (w1.alloc (.cells #[.int .u32 0, .int .u32 0, .int .u32 0, .int .u32 0, .int .u32 0, .int .u32 0, .int .u32 0, .int .u32 0, .int .u32 0, .int .u32 0, .int .u32 0, .int .u32 0, .int .u32 0, .int .u32 0, .int .u32 0, .int .u32 0, .int .u32 0, .int .u32 0, .int .u32 0, .int .u32 0, .int .u32 0, .int .u32 0, .int .u32 0, .int .u32 0] 73)).setCells w1.heap.size 0 (NA (V2 ph pl)).toList = W1 at *
  have HB2 : Hid (W1.rangeAt w1.heap.size 0 (NA (V2 ph pl)).toList ∧ Below w1.heap.size w1 W1 ∧ w1.heap.size < W1.heap.size) := ⟨x1, x2, x3⟩
  clear x1 x2 x3
  go_wp2_with fail
  refine (ofW F HW.out.2.2.2.2.1 _).mono ?_
  rintro e w2 ⟨rfl, hb2⟩
  have HB3 : Hid (Below W1.heap.size W1 w2) := hb2
  clear hb2
  go_upto_region 3 with (refine wpList_store_mid rfl 73 (.tmp 16) (.tmp 33) rfl w2.heap.size 0 (NA F) rfl rfl (there_new24 w2 _ _ HZ.out) (NA_info _) (NA_ones _) ?_)
  obtain ⟨x1, x2, x3⟩ := laid w2 F #[.int .u32 0, .int .u32 0, .int .u32 0, .int .u32 0, .int .u32 0, .int .u32 0, .int .u32 0, .int .u32 0, .int .u32 0, .int .u32 0, .int .u32 0, .int .u32 0, .int .u32 0, .int .u32 0, .int .u32 0, .int .u32 0, .int .u32 0, .int .u32 0, .int .u32 0, .int .u32 0, .int .u32 0, .int .u32 0, .int .u32 0, .int .u32 0] HZ.out
  generalize (w2.alloc (.cells #[.int .u32 0, .int .u32 0, .int .u32 0, .int .u32 0, .int .u32 0, .int .u32 0, .int .u32 0, .int .u32 0, .int .u32 0, .int .u32 0, .int .u32 0, .int .u32 0, .int .u32 0, .int .u32 0, .int .u32 0, .int .u32 0, .int .u32 0, .int .u32 0, .int .u32 0, .int .u32 0, .int .u32 0, .int .u32 0, .int .u32 0, .int .u32 0] 73)).setCells w2.heap.size 0 (NA F).toList = W2 at *
  have HE : Hid (Below w.heap.size w W2 ∧ Env w.heap.size w1.heap.size w2.heap.size rh rl A L (V2 ph pl) F W2) := by
    have s0 := HB0.out.2.2.2.2
    have s1 := HB1.out.size
    have s2 := HB2.out.2.2
    have s3 := HB3.out.size
    have b1 : Below W0.heap.size W0 W2 := (HB1.out.trans ((HB2.out.2.1.mono s1).trans ((HB3.out.mono (by omega)).trans (x2.mono (by omega)))))
    refine ⟨HB0.out.2.2.2.1.trans (b1.mono (by omega)), fun i hi => ?_, fun i hi => ?_, fun i hi => ?_, range_below HB2.out.1 (B := W1.heap.size) (by omega) (HB3.out.trans (x2.mono (by omega))), x1, by have := b1.size; omega, by omega, x3⟩
    · rw [b1.cell (p := ⟨w.heap.size, i * 2, none⟩) (by show w.heap.size < _; omega), b1.cell (p := ⟨w.heap.size, i * 2 + 1, none⟩) (by show w.heap.size < _; omega), HB0.out.1.cell, HB0.out.1.cell]
      rcases (by omega : i = 0 ∨ i = 1 ∨ i = 2 ∨ i = 3) with rfl | rfl | rfl | rfl <;> exact ⟨rfl, rfl⟩
    · rw [b1.cell (p := ⟨w.heap.size + 1 + 1, i, none⟩) (by show w.heap.size + 1 + 1 < _; omega), HB0.out.2.1.cell]
      rcases (by omega : i = 0 ∨ i = 1 ∨ i = 2 ∨ i = 3 ∨ i = 4) with rfl | rfl | rfl | rfl | rfl <;> rfl
    · rw [b1.cell (p := ⟨w.heap.size + 1 + 1 + 1, i, none⟩) (by show w.heap.size + 1 + 1 + 1 < _; omega), HB0.out.2.2.1.cell]
      rcases (by omega : i = 0 ∨ i = 1 ∨ i = 2 ∨ i = 3 ∨ i = 4) with rfl | rfl | rfl | rfl | rfl <;> rfl
  clear x1 x2 x3 HB0 HB1 HB2 HB3 HZ
  generalize w1.heap.size = bP at *
  generalize w2.heap.size = bF at *
  clear w1 w2 W0 W1
  go_wp2_with fail
  have HL0 : Hid (((W2.alloc (.cells Try.zeroCells76 76)).alloc (.cells Try.zeroCells76 76)).there W2.heap.size 0 120 ∧ ((W2.alloc (.cells Try.zeroCells76 76)).alloc (.cells Try.zeroCells76 76)).there (W2.heap.size + 1) 0 120 ∧ Below W2.heap.size W2 ((W2.alloc (.cells Try.zeroCells76 76)).alloc (.cells Try.zeroCells76 76)) ∧ ((W2.alloc (.cells Try.zeroCells76 76)).alloc (.cells Try.zeroCells76 76)).heap.size = W2.heap.size + 1 + 1) := by
    obtain ⟨Z, hZ, hz⟩ : ∃ Z : Array Value, Z = Try.zeroCells76 ∧ Z.size = 120 := ⟨_, rfl, by kernel_rfl⟩
    rw [← hZ]
    have h1 := there_new W2 76 Z
    have h2 := there_new (W2.alloc (.cells Z 76)) 76 Z
    rw [hz] at h1 h2
    rw [World.size_alloc] at h2
    exact ⟨World.there_alloc h1 _, h2, ((Below.refl _ _).alloc (Nat.le_refl _) _).alloc (by simp) _, by simp only [World.size_alloc]⟩
  generalize (W2.alloc (.cells Try.zeroCells76 76)).alloc (.cells Try.zeroCells76 76) = W3 at *
  have HE3 : Hid (LoopI w bP bF W2.heap.size rh rl A L (V2 ph pl) F 0 W3) := by
    obtain ⟨l1, l2, l3, l4⟩ := HL0.out
    obtain ⟨b1, e1⟩ := HE.out
    have e2 := e1.2.2.2.2.2
    exact ⟨⟨b1.trans (l3.mono b1.size), e1.mono l3 e2.1 e2.2.1 e2.2.2, l1, l2, by omega, e2⟩, fun i hi => by omega⟩
  clear HL0 HE
  generalize W2.heap.size = nb at *
  clear W2
  go_loopw [19] (fun v19 wx => ∃ k : Nat, v19 = .int .i64 k ∧ k ≤ 5 ∧ Hid (LoopI w bP bF nb rh rl A L (V2 ph pl) F k wx)) (fun v19 _ => 5 - (RowKit.intOf v19).toNat)
  case atStart => exact ⟨0, rfl, by omega, HE3.out⟩
  case round =>
    clear HE3
    obtain ⟨k, rfl, hk, HI⟩ := hrel
    by_cases hlt : k < 5
    · have hlt' : (k : Int) < 5 := by omega
      have h40 : (0 : Int) ≤ (k : Int) := by omega
      by_cases h4 : k < 4
      · have h4' : ¬ 3 < (k : Int) := by omega
        have h4'' : (k : Int) < 4 := by omega
        go_wp2_with fail
        refine region_new73 (m := 9) 21 (.tmp 49) (by kernel_rfl) rfl ⟨rfl, rfl, rfl⟩ ⟨rfl, rfl, rfl⟩ (by simp) ?_
        have HC : Hid (∀ w', Below wr.heap.size wr w' → Env w.heap.size bP bF rh rl A L (V2 ph pl) F w') := fun w' hw' => (HI.out.mono hw').1.2.1
        simp only [List.take_succ_cons, List.take_zero]
        refine ChainL.frame ?_
        intro a0 ha0
        have hsz : a0.tmps.size = 156 := by rw [ha0]; rfl
        have e7 : a0.eval (.tmp 7) = .pointer (some ⟨w.heap.size, 0, none⟩) := by rw [ha0]; rfl
        have e20 : a0.eval (.tmp 20) = .int .i64 (k : Nat) := by rw [ha0]; rfl
        refine ChainL.step (.int .i64 (k : Nat)) (g_move rfl (.tmp 20) rfl _ (by simp (decide := true) only [ev_eq, ev_ne, ev_const, put_size, hsz, e7, e20])) ?_
        refine ChainL.step _ (g_index rfl 24 2 (.tmp 7) (.tmp 41) rfl w.heap.size 0 k (by simp (decide := true) only [ev_eq, ev_ne, ev_const, put_size, hsz, e7, e20]) (by simp (decide := true) only [ev_eq, ev_ne, ev_const, put_size, hsz, e7, e20]) (idx24 _ _ _ (by omega))) ?_
        refine ChainL.step _ (g_index rfl 23 1 (.tmp 42) (.const (.int .i64 0)) rfl w.heap.size (0 + k * 2) 0 (by simp (decide := true) only [ev_eq, ev_ne, ev_const, put_size, hsz, e7, e20]) rfl (idx23 _ _ _ (by omega))) ?_
        refine ChainL.step _ (g_load rfl (.tmp 43) rfl ⟨w.heap.size, 0 + k * 2 + 0 * 1, none⟩ (.int .u64 (rh k)) (by simp (decide := true) only [ev_eq, ev_ne, ev_const, put_size, hsz, e7, e20]) (fun w' hw' => by have h := ((HC.out w' hw').1 k (by omega)).1; simpa using h)) ?_
        refine ChainL.step (.int .i64 (k : Nat)) (g_move rfl (.tmp 20) rfl _ (by simp (decide := true) only [ev_eq, ev_ne, ev_const, put_size, hsz, e7, e20])) ?_
        refine ChainL.step _ (g_index rfl 24 2 (.tmp 7) (.tmp 45) rfl w.heap.size 0 k (by simp (decide := true) only [ev_eq, ev_ne, ev_const, put_size, hsz, e7, e20]) (by simp (decide := true) only [ev_eq, ev_ne, ev_const, put_size, hsz, e7, e20]) (idx24 _ _ _ (by omega))) ?_
        refine ChainL.step _ (g_index rfl 23 1 (.tmp 46) (.const (.int .i64 1)) rfl w.heap.size (0 + k * 2) 1 (by simp (decide := true) only [ev_eq, ev_ne, ev_const, put_size, hsz, e7, e20]) rfl (idx23 _ _ _ (by omega))) ?_
        refine ChainL.step _ (g_load rfl (.tmp 47) rfl ⟨w.heap.size, 0 + k * 2 + 1 * 1, none⟩ (.int .u64 (rl k)) (by simp (decide := true) only [ev_eq, ev_ne, ev_const, put_size, hsz, e7, e20]) (fun w' hw' => by have h := ((HC.out w' hw').1 k (by omega)).2; simpa using h)) ?_
        refine ChainL.step _ (g_call rfl 18 _ rfl rfl #[.int .u64 (rh k), .int .u64 (rl k)] (by simp (decide := true) [ev_eq, ev_ne, ev_const, put_size, hsz]) (cf18 _) _ (fun w' _ => of128 (rh k) (rl k) (HW.out.1 k).1 (HW.out.1 k).2 w')) ?_
        refine ChainL.done ⟨by simp (decide := true) only [put_size, hsz], V2 (rh k) (rl k), (by simp (decide := true) only [ev_eq, ev_ne, ev_const, put_size, hsz, e7, e20]), ?_⟩
        intro b w' hS hb1 hb2 hb3
        rw [ha0]
        simp only [Act.put, List.setIfInBounds_toArray, List.set_cons_succ, List.set_cons_zero]
        have HJ : Hid (LoopI w bP bF nb rh rl A L (V2 ph pl) F k (w'.setCells b 0 (NA (V2 (rh k) (rl k))).toList) ∧ (w'.setCells b 0 (NA (V2 (rh k) (rl k))).toList).rangeAt b 0 (NA (V2 (rh k) (rl k))).toList ∧ b < (w'.setCells b 0 (NA (V2 (rh k) (rl k))).toList).heap.size) := ⟨(HI.out.mono hS).fresh (by have := HI.out.1.2.2.2.2.1; omega) _, World.rangeAt_setCells_same _ _ _ _ (by rw [NA_len]; exact hb3), by rw [size_setCells]; exact hb2⟩
        generalize w'.setCells b 0 (NA (V2 (rh k) (rl k))).toList = W4 at *
        clear hS hb1 hb2 hb3 HC ha0 hsz e7 e20 w' HI a0
        go_wp2_with fail
        refine region_then73 (m := 12) (.tmp 61) (.tmp 60) (by kernel_rfl) rfl ⟨rfl, rfl, rfl⟩ ?_
        simp only [List.take_succ_cons, List.take_zero]
        refine ChainL.frame ?_
        intro a0 ha0
        have hsz : a0.tmps.size = 156 := by rw [ha0]; rfl
        have e19 : a0.eval (.tmp 19) = .int .i64 (k : Nat) := by rw [ha0]; rfl
        have e21 : a0.eval (.tmp 21) = .pointer (some ⟨b, 0, none⟩) := by rw [ha0]; rfl
        have e9 : a0.eval (.tmp 9) = .pointer (some ⟨w.heap.size + 1 + 1, 0, none⟩) := by rw [ha0]; rfl
        have e15 : a0.eval (.tmp 15) = .pointer (some ⟨bP, 0, none⟩) := by rw [ha0]; rfl
        have e16 : a0.eval (.tmp 16) = .pointer (some ⟨bF, 0, none⟩) := by rw [ha0]; rfl
        have e17 : a0.eval (.tmp 17) = .pointer (some ⟨nb, 0, none⟩) := by rw [ha0]; rfl
        refine ChainL.step (.int .i64 (k : Nat)) (g_move rfl (.tmp 19) rfl _ (by simp (decide := true) only [ev_eq, ev_ne, ev_const, put_size, hsz, e19, e21, e9, e15, e16, e17])) ?_
        refine ChainL.step _ (g_load73 rfl (.tmp 21) rfl b 0 (V2 (rh k) (rl k)) (by simp (decide := true) only [ev_eq, ev_ne, ev_const, put_size, hsz, e19, e21, e9, e15, e16, e17]) (fun w' hw' => range_below HJ.out.2.1 HJ.out.2.2 hw')) ?_
        refine ChainL.step (.int .i64 (k : Nat)) (g_move rfl (.tmp 19) rfl _ (by simp (decide := true) only [ev_eq, ev_ne, ev_const, put_size, hsz, e19, e21, e9, e15, e16, e17])) ?_
        refine ChainL.step _ (g_index rfl 25 1 (.tmp 9) (.tmp 52) rfl (w.heap.size + 1 + 1) 0 k (by simp (decide := true) only [ev_eq, ev_ne, ev_const, put_size, hsz, e19, e21, e9, e15, e16, e17]) (by simp (decide := true) only [ev_eq, ev_ne, ev_const, put_size, hsz, e19, e21, e9, e15, e16, e17]) (idx25 _ _ _ hlt)) ?_
        refine ChainL.step _ (g_load rfl (.tmp 53) rfl ⟨w.heap.size + 1 + 1, 0 + k * 1, none⟩ (.int .u64 (A k)) (by simp (decide := true) only [ev_eq, ev_ne, ev_const, put_size, hsz, e19, e21, e9, e15, e16, e17]) (fun w' hw' => by have h := (HJ.out.1.mono hw').1.2.1.2.1 k hlt; simpa using h)) ?_
        refine ChainL.step _ (g_call rfl 19 _ rfl rfl #[.int .u64 (A k)] (by simp (decide := true) [ev_eq, ev_ne, ev_const, put_size, hsz]) (cf19 _) _ (fun w' _ => ofW (A k) (HW.out.2.1 k) w')) ?_
        refine ChainL.step _ (g_call rfl 20 _ rfl rfl #[.agg (NA (V2 (rh k) (rl k))), .agg (NA (A k))] (by simp (decide := true) [ev_eq, ev_ne, ev_const, put_size, hsz]) (cf20 _) _ (fun w' _ => mulN (V2 (rh k) (rl k)) (A k) w')) ?_
        refine ChainL.step _ (g_load73 rfl (.tmp 15) rfl bP 0 (V2 ph pl) (by simp (decide := true) only [ev_eq, ev_ne, ev_const, put_size, hsz, e19, e21, e9, e15, e16, e17]) (fun w' hw' => (HJ.out.1.mono hw').1.2.1.2.2.2.1)) ?_
        refine ChainL.step _ (g_call rfl 20 _ rfl rfl #[.agg (NA (V2 (rh k) (rl k) * A k)), .agg (NA (V2 ph pl))] (by simp (decide := true) [ev_eq, ev_ne, ev_const, put_size, hsz]) (cf20 _) _ (fun w' _ => mulN (V2 (rh k) (rl k) * A k) (V2 ph pl) w')) ?_
        refine ChainL.step _ (g_load73 rfl (.tmp 16) rfl bF 0 F (by simp (decide := true) only [ev_eq, ev_ne, ev_const, put_size, hsz, e19, e21, e9, e15, e16, e17]) (fun w' hw' => (HJ.out.1.mono hw').1.2.1.2.2.2.2.1)) ?_
        refine ChainL.step _ (g_call rfl 20 _ rfl rfl #[.agg (NA (V2 (rh k) (rl k) * A k * V2 ph pl)), .agg (NA F)] (by simp (decide := true) [ev_eq, ev_ne, ev_const, put_size, hsz]) (cf20 _) _ (fun w' _ => mulN (V2 (rh k) (rl k) * A k * V2 ph pl) F w')) ?_
        refine ChainL.step _ (g_index rfl 76 24 (.tmp 17) (.tmp 50) rfl nb 0 k (by simp (decide := true) only [ev_eq, ev_ne, ev_const, put_size, hsz, e19, e21, e9, e15, e16, e17]) (by simp (decide := true) only [ev_eq, ev_ne, ev_const, put_size, hsz, e19, e21, e9, e15, e16, e17]) (idx76 _ _ _ hlt)) ?_
        refine ChainL.done ⟨nb, 0 + k * 24, V2 (rh k) (rl k) * A k * V2 ph pl * F, (by simp (decide := true) only [ev_eq, ev_ne, ev_const, put_size, hsz, e19, e21, e9, e15, e16, e17]), (by simp (decide := true) only [ev_eq, ev_ne, ev_const, put_size, hsz, e19, e21, e9, e15, e16, e17]), fun w' hw' => by rw [Nat.zero_add]; exact there_sub (HJ.out.1.mono hw').1.2.2.1 hlt, ?_⟩
        intro w' hS
        rw [ha0]
        simp only [Act.put, List.setIfInBounds_toArray, List.set_cons_succ, List.set_cons_zero]
        have hNN : V2 (rh k) (rl k) * A k * V2 ph pl * F = NN rh rl A (V2 ph pl) F k := by unfold NN; rw [show min k 3 = k by omega]
        have HJ2 : Hid (LoopI w bP bF nb rh rl A L (V2 ph pl) F k (w'.setCells nb (0 + k * 24) (NA (V2 (rh k) (rl k) * A k * V2 ph pl * F)).toList) ∧ (w'.setCells nb (0 + k * 24) (NA (V2 (rh k) (rl k) * A k * V2 ph pl * F)).toList).rangeAt nb (k * 24) (NA (NN rh rl A (V2 ph pl) F k)).toList) := by
          rw [Nat.zero_add, hNN]
          exact (HJ.out.1.mono hS).putN hlt _
        generalize w'.setCells nb (0 + k * 24) (NA (V2 (rh k) (rl k) * A k * V2 ph pl * F)).toList = W5 at *
        clear hS ha0 hsz e19 e21 e9 e15 e16 e17 w' a0 HJ hNN W4
        have cL := HJ2.out.1.1.2.1.2.2.1 k hlt
        go_wp2_with fail
        refine (ofW (L k) (HW.out.2.2.1 k) _).mono ?_
        rintro e w3 ⟨rfl, hb⟩
        have HJ3 : Hid (LoopI w bP bF nb rh rl A L (V2 ph pl) F k w3 ∧ w3.rangeAt nb (k * 24) (NA (NN rh rl A (V2 ph pl) F k)).toList) := ⟨HJ2.out.1.mono hb, range_below HJ2.out.2 (by have := HJ2.out.1.1.2.2.2.2.1; omega) hb⟩
        clear HJ2 hb cL
        go_upto_region 6 with (refine wpList_store_mid rfl 73 (.tmp 67) (.tmp 66) rfl (nb + 1) (k * 24) (NA (L k)) rfl rfl (by rw [NA_size]; exact there_sub HJ3.out.1.1.2.2.2.1 hlt) (NA_info _) (NA_ones _) ?_)
        have HJ4 : Hid (LoopI w bP bF nb rh rl A L (V2 ph pl) F (k + 1) (w3.setCells (nb + 1) (k * 24) (NA (L k)).toList)) := HJ3.out.1.putL hlt HJ3.out.2
        generalize w3.setCells (nb + 1) (k * 24) (NA (L k)).toList = W6 at *
        go_wp2_with fail
        go_roundw
        case rel => exact ⟨k + 1, rfl, by omega, HJ4.out⟩
        case measure => simp [RowKit.intOf]; omega
      · have h4' : 3 < (k : Int) := by omega
        go_wp2_with fail
        refine region_new73 (m := 9) 21 (.tmp 49) (by kernel_rfl) rfl ⟨rfl, rfl, rfl⟩ ⟨rfl, rfl, rfl⟩ (by simp) ?_
        have HC : Hid (∀ w', Below wr.heap.size wr w' → Env w.heap.size bP bF rh rl A L (V2 ph pl) F w') := fun w' hw' => (HI.out.mono hw').1.2.1
        simp only [List.take_succ_cons, List.take_zero]
        refine ChainL.frame ?_
        intro a0 ha0
        have hsz : a0.tmps.size = 156 := by rw [ha0]; rfl
        have e7 : a0.eval (.tmp 7) = .pointer (some ⟨w.heap.size, 0, none⟩) := by rw [ha0]; rfl
        have e20 : a0.eval (.tmp 20) = .int .i64 (3 : Nat) := by rw [ha0]; rfl
        refine ChainL.step (.int .i64 (3 : Nat)) (g_move rfl (.tmp 20) rfl _ (by simp (decide := true) only [ev_eq, ev_ne, ev_const, put_size, hsz, e7, e20])) ?_
        refine ChainL.step _ (g_index rfl 24 2 (.tmp 7) (.tmp 41) rfl w.heap.size 0 3 (by simp (decide := true) only [ev_eq, ev_ne, ev_const, put_size, hsz, e7, e20]) (by simp (decide := true) only [ev_eq, ev_ne, ev_const, put_size, hsz, e7, e20]) (idx24 _ _ _ (by omega))) ?_
        refine ChainL.step _ (g_index rfl 23 1 (.tmp 42) (.const (.int .i64 0)) rfl w.heap.size (0 + 3 * 2) 0 (by simp (decide := true) only [ev_eq, ev_ne, ev_const, put_size, hsz, e7, e20]) rfl (idx23 _ _ _ (by omega))) ?_
        refine ChainL.step _ (g_load rfl (.tmp 43) rfl ⟨w.heap.size, 0 + 3 * 2 + 0 * 1, none⟩ (.int .u64 (rh 3)) (by simp (decide := true) only [ev_eq, ev_ne, ev_const, put_size, hsz, e7, e20]) (fun w' hw' => by have h := ((HC.out w' hw').1 3 (by omega)).1; simpa using h)) ?_
        refine ChainL.step (.int .i64 (3 : Nat)) (g_move rfl (.tmp 20) rfl _ (by simp (decide := true) only [ev_eq, ev_ne, ev_const, put_size, hsz, e7, e20])) ?_
        refine ChainL.step _ (g_index rfl 24 2 (.tmp 7) (.tmp 45) rfl w.heap.size 0 3 (by simp (decide := true) only [ev_eq, ev_ne, ev_const, put_size, hsz, e7, e20]) (by simp (decide := true) only [ev_eq, ev_ne, ev_const, put_size, hsz, e7, e20]) (idx24 _ _ _ (by omega))) ?_
        refine ChainL.step _ (g_index rfl 23 1 (.tmp 46) (.const (.int .i64 1)) rfl w.heap.size (0 + 3 * 2) 1 (by simp (decide := true) only [ev_eq, ev_ne, ev_const, put_size, hsz, e7, e20]) rfl (idx23 _ _ _ (by omega))) ?_
        refine ChainL.step _ (g_load rfl (.tmp 47) rfl ⟨w.heap.size, 0 + 3 * 2 + 1 * 1, none⟩ (.int .u64 (rl 3)) (by simp (decide := true) only [ev_eq, ev_ne, ev_const, put_size, hsz, e7, e20]) (fun w' hw' => by have h := ((HC.out w' hw').1 3 (by omega)).2; simpa using h)) ?_
        refine ChainL.step _ (g_call rfl 18 _ rfl rfl #[.int .u64 (rh 3), .int .u64 (rl 3)] (by simp (decide := true) [ev_eq, ev_ne, ev_const, put_size, hsz]) (cf18 _) _ (fun w' _ => of128 (rh 3) (rl 3) (HW.out.1 3).1 (HW.out.1 3).2 w')) ?_
        refine ChainL.done ⟨by simp (decide := true) only [put_size, hsz], V2 (rh 3) (rl 3), (by simp (decide := true) only [ev_eq, ev_ne, ev_const, put_size, hsz, e7, e20]), ?_⟩
        intro b w' hS hb1 hb2 hb3
        rw [ha0]
        simp only [Act.put, List.setIfInBounds_toArray, List.set_cons_succ, List.set_cons_zero]
        have HJ : Hid (LoopI w bP bF nb rh rl A L (V2 ph pl) F k (w'.setCells b 0 (NA (V2 (rh 3) (rl 3))).toList) ∧ (w'.setCells b 0 (NA (V2 (rh 3) (rl 3))).toList).rangeAt b 0 (NA (V2 (rh 3) (rl 3))).toList ∧ b < (w'.setCells b 0 (NA (V2 (rh 3) (rl 3))).toList).heap.size) := ⟨(HI.out.mono hS).fresh (by have := HI.out.1.2.2.2.2.1; omega) _, World.rangeAt_setCells_same _ _ _ _ (by rw [NA_len]; exact hb3), by rw [size_setCells]; exact hb2⟩
        generalize w'.setCells b 0 (NA (V2 (rh 3) (rl 3))).toList = W4 at *
        clear hS hb1 hb2 hb3 HC ha0 hsz e7 e20 w' HI a0
        go_wp2_with fail
        refine region_then73 (m := 12) (.tmp 61) (.tmp 60) (by kernel_rfl) rfl ⟨rfl, rfl, rfl⟩ ?_
        simp only [List.take_succ_cons, List.take_zero]
        refine ChainL.frame ?_
        intro a0 ha0
        have hsz : a0.tmps.size = 156 := by rw [ha0]; rfl
        have e19 : a0.eval (.tmp 19) = .int .i64 (k : Nat) := by rw [ha0]; rfl
        have e21 : a0.eval (.tmp 21) = .pointer (some ⟨b, 0, none⟩) := by rw [ha0]; rfl
        have e9 : a0.eval (.tmp 9) = .pointer (some ⟨w.heap.size + 1 + 1, 0, none⟩) := by rw [ha0]; rfl
        have e15 : a0.eval (.tmp 15) = .pointer (some ⟨bP, 0, none⟩) := by rw [ha0]; rfl
        have e16 : a0.eval (.tmp 16) = .pointer (some ⟨bF, 0, none⟩) := by rw [ha0]; rfl
        have e17 : a0.eval (.tmp 17) = .pointer (some ⟨nb, 0, none⟩) := by rw [ha0]; rfl
        refine ChainL.step (.int .i64 (k : Nat)) (g_move rfl (.tmp 19) rfl _ (by simp (decide := true) only [ev_eq, ev_ne, ev_const, put_size, hsz, e19, e21, e9, e15, e16, e17])) ?_
        refine ChainL.step _ (g_load73 rfl (.tmp 21) rfl b 0 (V2 (rh 3) (rl 3)) (by simp (decide := true) only [ev_eq, ev_ne, ev_const, put_size, hsz, e19, e21, e9, e15, e16, e17]) (fun w' hw' => range_below HJ.out.2.1 HJ.out.2.2 hw')) ?_
        refine ChainL.step (.int .i64 (k : Nat)) (g_move rfl (.tmp 19) rfl _ (by simp (decide := true) only [ev_eq, ev_ne, ev_const, put_size, hsz, e19, e21, e9, e15, e16, e17])) ?_
        refine ChainL.step _ (g_index rfl 25 1 (.tmp 9) (.tmp 52) rfl (w.heap.size + 1 + 1) 0 k (by simp (decide := true) only [ev_eq, ev_ne, ev_const, put_size, hsz, e19, e21, e9, e15, e16, e17]) (by simp (decide := true) only [ev_eq, ev_ne, ev_const, put_size, hsz, e19, e21, e9, e15, e16, e17]) (idx25 _ _ _ hlt)) ?_
        refine ChainL.step _ (g_load rfl (.tmp 53) rfl ⟨w.heap.size + 1 + 1, 0 + k * 1, none⟩ (.int .u64 (A k)) (by simp (decide := true) only [ev_eq, ev_ne, ev_const, put_size, hsz, e19, e21, e9, e15, e16, e17]) (fun w' hw' => by have h := (HJ.out.1.mono hw').1.2.1.2.1 k hlt; simpa using h)) ?_
        refine ChainL.step _ (g_call rfl 19 _ rfl rfl #[.int .u64 (A k)] (by simp (decide := true) [ev_eq, ev_ne, ev_const, put_size, hsz]) (cf19 _) _ (fun w' _ => ofW (A k) (HW.out.2.1 k) w')) ?_
        refine ChainL.step _ (g_call rfl 20 _ rfl rfl #[.agg (NA (V2 (rh 3) (rl 3))), .agg (NA (A k))] (by simp (decide := true) [ev_eq, ev_ne, ev_const, put_size, hsz]) (cf20 _) _ (fun w' _ => mulN (V2 (rh 3) (rl 3)) (A k) w')) ?_
        refine ChainL.step _ (g_load73 rfl (.tmp 15) rfl bP 0 (V2 ph pl) (by simp (decide := true) only [ev_eq, ev_ne, ev_const, put_size, hsz, e19, e21, e9, e15, e16, e17]) (fun w' hw' => (HJ.out.1.mono hw').1.2.1.2.2.2.1)) ?_
        refine ChainL.step _ (g_call rfl 20 _ rfl rfl #[.agg (NA (V2 (rh 3) (rl 3) * A k)), .agg (NA (V2 ph pl))] (by simp (decide := true) [ev_eq, ev_ne, ev_const, put_size, hsz]) (cf20 _) _ (fun w' _ => mulN (V2 (rh 3) (rl 3) * A k) (V2 ph pl) w')) ?_
        refine ChainL.step _ (g_load73 rfl (.tmp 16) rfl bF 0 F (by simp (decide := true) only [ev_eq, ev_ne, ev_const, put_size, hsz, e19, e21, e9, e15, e16, e17]) (fun w' hw' => (HJ.out.1.mono hw').1.2.1.2.2.2.2.1)) ?_
        refine ChainL.step _ (g_call rfl 20 _ rfl rfl #[.agg (NA (V2 (rh 3) (rl 3) * A k * V2 ph pl)), .agg (NA F)] (by simp (decide := true) [ev_eq, ev_ne, ev_const, put_size, hsz]) (cf20 _) _ (fun w' _ => mulN (V2 (rh 3) (rl 3) * A k * V2 ph pl) F w')) ?_
        refine ChainL.step _ (g_index rfl 76 24 (.tmp 17) (.tmp 50) rfl nb 0 k (by simp (decide := true) only [ev_eq, ev_ne, ev_const, put_size, hsz, e19, e21, e9, e15, e16, e17]) (by simp (decide := true) only [ev_eq, ev_ne, ev_const, put_size, hsz, e19, e21, e9, e15, e16, e17]) (idx76 _ _ _ hlt)) ?_
        refine ChainL.done ⟨nb, 0 + k * 24, V2 (rh 3) (rl 3) * A k * V2 ph pl * F, (by simp (decide := true) only [ev_eq, ev_ne, ev_const, put_size, hsz, e19, e21, e9, e15, e16, e17]), (by simp (decide := true) only [ev_eq, ev_ne, ev_const, put_size, hsz, e19, e21, e9, e15, e16, e17]), fun w' hw' => by rw [Nat.zero_add]; exact there_sub (HJ.out.1.mono hw').1.2.2.1 hlt, ?_⟩
        intro w' hS
        rw [ha0]
        simp only [Act.put, List.setIfInBounds_toArray, List.set_cons_succ, List.set_cons_zero]
        have hNN : V2 (rh 3) (rl 3) * A k * V2 ph pl * F = NN rh rl A (V2 ph pl) F k := by unfold NN; rw [show min k 3 = 3 by omega]
        have HJ2 : Hid (LoopI w bP bF nb rh rl A L (V2 ph pl) F k (w'.setCells nb (0 + k * 24) (NA (V2 (rh 3) (rl 3) * A k * V2 ph pl * F)).toList) ∧ (w'.setCells nb (0 + k * 24) (NA (V2 (rh 3) (rl 3) * A k * V2 ph pl * F)).toList).rangeAt nb (k * 24) (NA (NN rh rl A (V2 ph pl) F k)).toList) := by
          rw [Nat.zero_add, hNN]
          exact (HJ.out.1.mono hS).putN hlt _
        generalize w'.setCells nb (0 + k * 24) (NA (V2 (rh 3) (rl 3) * A k * V2 ph pl * F)).toList = W5 at *
        clear hS ha0 hsz e19 e21 e9 e15 e16 e17 w' a0 HJ hNN W4
        have cL := HJ2.out.1.1.2.1.2.2.1 k hlt
        go_wp2_with fail
        refine (ofW (L k) (HW.out.2.2.1 k) _).mono ?_
        rintro e w3 ⟨rfl, hb⟩
        have HJ3 : Hid (LoopI w bP bF nb rh rl A L (V2 ph pl) F k w3 ∧ w3.rangeAt nb (k * 24) (NA (NN rh rl A (V2 ph pl) F k)).toList) := ⟨HJ2.out.1.mono hb, range_below HJ2.out.2 (by have := HJ2.out.1.1.2.2.2.2.1; omega) hb⟩
        clear HJ2 hb cL
        go_upto_region 6 with (refine wpList_store_mid rfl 73 (.tmp 67) (.tmp 66) rfl (nb + 1) (k * 24) (NA (L k)) rfl rfl (by rw [NA_size]; exact there_sub HJ3.out.1.1.2.2.2.1 hlt) (NA_info _) (NA_ones _) ?_)
        have HJ4 : Hid (LoopI w bP bF nb rh rl A L (V2 ph pl) F (k + 1) (w3.setCells (nb + 1) (k * 24) (NA (L k)).toList)) := HJ3.out.1.putL hlt HJ3.out.2
        generalize w3.setCells (nb + 1) (k * 24) (NA (L k)).toList = W6 at *
        go_wp2_with fail
        go_roundw
        case rel => exact ⟨k + 1, rfl, by omega, HJ4.out⟩
        case measure => simp [RowKit.intOf]; omega
    · have hk5 : k = 5 := by omega
      subst hk5
      obtain ⟨wo, hwo⟩ : ∃ wo : World, wo = wr := ⟨_, rfl⟩
      have HI0 : Hid (LoopI w bP bF nb rh rl A L (V2 ph pl) F 5 wo) := by rw [hwo]; exact HI.out
      go_wp2_with fail
      rw [← hwo]
      clear hwo HI hlt hk
      go_loopw [22, 23] (fun v22 v23 wx => ∃ m d : Nat, v22 = .int .i64 m ∧ v23 = .int .i64 d ∧ m < d ∧ d ≤ 3 ∧ Hid (Below wo.heap.size wo wx ∧ ∀ i, i < d → NN rh rl A (V2 ph pl) F i * L m ≤ NN rh rl A (V2 ph pl) F m * L i)) (fun _ v23 _ => 3 - (RowKit.intOf v23).toNat)
      case atStart => exact ⟨0, 1, rfl, rfl, by omega, by omega, Below.refl _ _, fun i hi => by rw [show i = 0 by omega]; exact Int.le_refl _⟩
      case round =>
        obtain ⟨m, d, rfl, rfl, hmd, hd3, HT⟩ := hrel
        by_cases hlt : d < 3
        · have hlt' : (d : Int) < 3 := by omega
          go_wp2_with fail
          refine region_all73 (by kernel_rfl) ?_
          have HF : Hid (∀ w', Below wr.heap.size wr w' → ∀ i, i < 5 → w'.rangeAt nb (i * 24) (NA (NN rh rl A (V2 ph pl) F i)).toList ∧ w'.rangeAt (nb + 1) (i * 24) (NA (L i)).toList) := fun w' hw' i hi => ((HI0.out.mono HT.out.1).mono hw').2 i hi
          refine ChainL.frame ?_
          intro a0 ha0
          have hsz : a0.tmps.size = 156 := by rw [ha0]; rfl
          have e22 : a0.eval (.tmp 22) = .int .i64 (m : Nat) := by rw [ha0]; rfl
          have e23 : a0.eval (.tmp 23) = .int .i64 (d : Nat) := by rw [ha0]; rfl
          have e17 : a0.eval (.tmp 17) = .pointer (some ⟨nb, 0, none⟩) := by rw [ha0]; rfl
          have e18 : a0.eval (.tmp 18) = .pointer (some ⟨nb + 1, 0, none⟩) := by rw [ha0]; rfl
          refine ChainL.step (.int .i64 (d : Nat)) (g_move rfl (.tmp 23) rfl _ (by simp (decide := true) only [ev_eq, ev_ne, ev_const, put_size, hsz, e22, e23, e17, e18])) ?_
          refine ChainL.step _ (g_index rfl 76 24 (.tmp 17) (.tmp 72) rfl nb 0 d (by simp (decide := true) only [ev_eq, ev_ne, ev_const, put_size, hsz, e22, e23, e17, e18]) (by simp (decide := true) only [ev_eq, ev_ne, ev_const, put_size, hsz, e22, e23, e17, e18]) (idx76 _ _ _ (by omega))) ?_
          refine ChainL.step _ (g_load73 rfl (.tmp 73) rfl nb (0 + d * 24) (NN rh rl A (V2 ph pl) F d) (by simp (decide := true) only [ev_eq, ev_ne, ev_const, put_size, hsz, e22, e23, e17, e18]) (fun w' hw' => by rw [Nat.zero_add]; exact ((HF.out w' hw') d (by omega)).1)) ?_
          refine ChainL.step (.int .i64 (m : Nat)) (g_move rfl (.tmp 22) rfl _ (by simp (decide := true) only [ev_eq, ev_ne, ev_const, put_size, hsz, e22, e23, e17, e18])) ?_
          refine ChainL.step _ (g_index rfl 76 24 (.tmp 18) (.tmp 75) rfl (nb + 1) 0 m (by simp (decide := true) only [ev_eq, ev_ne, ev_const, put_size, hsz, e22, e23, e17, e18]) (by simp (decide := true) only [ev_eq, ev_ne, ev_const, put_size, hsz, e22, e23, e17, e18]) (idx76 _ _ _ (by omega))) ?_
          refine ChainL.step _ (g_load73 rfl (.tmp 76) rfl (nb + 1) (0 + m * 24) (L m) (by simp (decide := true) only [ev_eq, ev_ne, ev_const, put_size, hsz, e22, e23, e17, e18]) (fun w' hw' => by rw [Nat.zero_add]; exact ((HF.out w' hw') m (by omega)).2)) ?_
          refine ChainL.step _ (g_call rfl 20 _ rfl rfl #[.agg (NA (NN rh rl A (V2 ph pl) F d)), .agg (NA (L m))] (by simp (decide := true) [ev_eq, ev_ne, ev_const, put_size, hsz]) (cf20 _) _ (fun w' _ => mulN _ _ w')) ?_
          refine ChainL.step (.int .i64 (m : Nat)) (g_move rfl (.tmp 22) rfl _ (by simp (decide := true) only [ev_eq, ev_ne, ev_const, put_size, hsz, e22, e23, e17, e18])) ?_
          refine ChainL.step _ (g_index rfl 76 24 (.tmp 17) (.tmp 79) rfl nb 0 m (by simp (decide := true) only [ev_eq, ev_ne, ev_const, put_size, hsz, e22, e23, e17, e18]) (by simp (decide := true) only [ev_eq, ev_ne, ev_const, put_size, hsz, e22, e23, e17, e18]) (idx76 _ _ _ (by omega))) ?_
          refine ChainL.step _ (g_load73 rfl (.tmp 80) rfl nb (0 + m * 24) (NN rh rl A (V2 ph pl) F m) (by simp (decide := true) only [ev_eq, ev_ne, ev_const, put_size, hsz, e22, e23, e17, e18]) (fun w' hw' => by rw [Nat.zero_add]; exact ((HF.out w' hw') m (by omega)).1)) ?_
          refine ChainL.step (.int .i64 (d : Nat)) (g_move rfl (.tmp 23) rfl _ (by simp (decide := true) only [ev_eq, ev_ne, ev_const, put_size, hsz, e22, e23, e17, e18])) ?_
          refine ChainL.step _ (g_index rfl 76 24 (.tmp 18) (.tmp 82) rfl (nb + 1) 0 d (by simp (decide := true) only [ev_eq, ev_ne, ev_const, put_size, hsz, e22, e23, e17, e18]) (by simp (decide := true) only [ev_eq, ev_ne, ev_const, put_size, hsz, e22, e23, e17, e18]) (idx76 _ _ _ (by omega))) ?_
          refine ChainL.step _ (g_load73 rfl (.tmp 83) rfl (nb + 1) (0 + d * 24) (L d) (by simp (decide := true) only [ev_eq, ev_ne, ev_const, put_size, hsz, e22, e23, e17, e18]) (fun w' hw' => by rw [Nat.zero_add]; exact ((HF.out w' hw') d (by omega)).2)) ?_
          refine ChainL.step _ (g_call rfl 20 _ rfl rfl #[.agg (NA (NN rh rl A (V2 ph pl) F m)), .agg (NA (L d))] (by simp (decide := true) [ev_eq, ev_ne, ev_const, put_size, hsz]) (cf20 _) _ (fun w' _ => mulN _ _ w')) ?_
          refine ChainL.step _ (g_call rfl 21 _ rfl rfl #[.agg (NA (NN rh rl A (V2 ph pl) F d * L m)), .agg (NA (NN rh rl A (V2 ph pl) F m * L d))] (by simp (decide := true) [ev_eq, ev_ne, ev_const, put_size, hsz]) (cf21 _) _ (fun w' _ => cmpN _ _ (small_up (small_mul (small_NN HW.out.1 HW.out.2.1 HW.out.2.2.2.1 HW.out.2.2.2.2.1 d) (small_word (HW.out.2.2.1 m))) (by omega)) (small_up (small_mul (small_NN HW.out.1 HW.out.2.1 HW.out.2.2.2.1 HW.out.2.2.2.2.1 m) (small_word (HW.out.2.2.1 d))) (by omega)) w')) ?_
          refine ChainL.step _ (h_gtr (wanted_none rfl) (.tmp 86) rfl (cmpI (NN rh rl A (V2 ph pl) F d * L m) (NN rh rl A (V2 ph pl) F m * L d)) (by simp (decide := true) only [ev_eq, ev_ne, ev_const, put_size, hsz, e22, e23, e17, e18])) ?_
          refine ChainL.done ?_
          intro w' hS
          rw [ha0]
          simp only [Act.put, List.setIfInBounds_toArray, List.set_cons_succ, List.set_cons_zero]
          have HS : Hid (Below wo.heap.size wo w') := HT.out.1.trans (hS.mono HT.out.1.size)
          clear hS ha0 hsz e22 e23 e17 e18 a0 HF
          by_cases hc : NN rh rl A (V2 ph pl) F m * L d < NN rh rl A (V2 ph pl) F d * L m
          · have hcc : (0 < cmpI (NN rh rl A (V2 ph pl) F d * L m) (NN rh rl A (V2 ph pl) F m * L d)) = True := by rw [cmpI_pos]; exact eq_true hc
            have HC : Hid (NN rh rl A (V2 ph pl) F m * L d < NN rh rl A (V2 ph pl) F d * L m) := hc
            simp only [hcc]
            clear hcc hc
            go_wp2_with fail
            go_roundw
            case rel =>
              refine ⟨d, d + 1, rfl, rfl, by omega, by omega, HS.out, fun i hi => ?_⟩
              by_cases e : i = d
              · subst e; exact Int.le_refl _
              · exact frac_trans (HQ.out.1 m (by omega)) (Int.le_of_lt (HQ.out.1 i (by omega))) (Int.le_of_lt (HQ.out.1 d (by omega))) (HT.out.2 i (by omega)) (Int.le_of_lt HC.out)
            case measure => simp [RowKit.intOf]; omega
          · have hcc : (0 < cmpI (NN rh rl A (V2 ph pl) F d * L m) (NN rh rl A (V2 ph pl) F m * L d)) = False := by rw [cmpI_pos]; exact eq_false hc
            have HC : Hid (NN rh rl A (V2 ph pl) F d * L m ≤ NN rh rl A (V2 ph pl) F m * L d) := Int.not_lt.1 hc
            simp only [hcc]
            clear hcc hc
            go_wp2_with fail
            go_roundw
            case rel =>
              refine ⟨m, d + 1, rfl, rfl, by omega, by omega, HS.out, fun i hi => ?_⟩
              by_cases e : i = d
              · subst e; exact HC.out
              · exact HT.out.2 i (by omega)
            case measure => simp [RowKit.intOf]; omega
        · have hd : d = 3 := by omega
          subst hd
          have HR : Hid (RightAt (NN rh rl A (V2 ph pl) F) L m fee ok) := HQ.out.2.at HQ.out.1 ⟨hmd, HT.out.2⟩
          have HU : Hid (NN rh rl A (V2 ph pl) F m * (L 3 * L 4) + NN rh rl A (V2 ph pl) F 3 * (L m * L 4) + NN rh rl A (V2 ph pl) F 4 * (L m * L 3) = TT (NN rh rl A (V2 ph pl) F) L m ∧ L m * L 3 * L 4 = DD L m) := by
            refine ⟨?_, rfl⟩
            unfold TT
            rw [Int.mul_assoc (NN rh rl A (V2 ph pl) F m), Int.mul_assoc (NN rh rl A (V2 ph pl) F 3), Int.mul_assoc (NN rh rl A (V2 ph pl) F 4)]
          have HSm : Hid ((0 ≤ NN rh rl A (V2 ph pl) F m * (L 3 * L 4) + NN rh rl A (V2 ph pl) F 3 * (L m * L 4) + NN rh rl A (V2 ph pl) F 4 * (L m * L 3) ∧ NN rh rl A (V2 ph pl) F m * (L 3 * L 4) + NN rh rl A (V2 ph pl) F 3 * (L m * L 4) + NN rh rl A (V2 ph pl) F 4 * (L m * L 3) < BB 24) ∧ 0 ≤ L m * L 3 * L 4 * 340282366920938463463374607431768211456 ∧ L m * L 3 * L 4 * 340282366920938463463374607431768211456 < BB 10) := by
            have sL := fun i => small_word (HW.out.2.2.1 i)
            have sN := small_NN HW.out.1 HW.out.2.1 HW.out.2.2.2.1 HW.out.2.2.2.2.1
            refine ⟨small_up (small_add (small_add (small_mul (sN m) (small_mul (sL 3) (sL 4))) (small_mul (sN 3) (small_mul (sL m) (sL 4)))) (small_up (small_mul (sN 4) (small_mul (sL m) (sL 3))) (by omega))) (by omega), ?_⟩
            have b4 : (340282366920938463463374607431768211456 : Int) = BB 4 := by decide
            have := small_mul (small_mul (small_mul (sL m) (sL 3)) (sL 4)) (q := 5) (y := 340282366920938463463374607431768211456) (by rw [b4]; exact ⟨Int.le_of_lt (BB_pos 4), by decide⟩)
            refine ⟨this.1, ?_⟩
            have h2 : L m * L 3 * L 4 * 340282366920938463463374607431768211456 < BB 6 * BB 4 := by
              rw [b4]
              exact Int.mul_lt_mul_of_pos_right (small_mul (small_mul (sL m) (sL 3)) (sL 4)).2 (BB_pos 4)
            rw [← BB_add] at h2
            exact h2
          go_wp2_with fail
          refine region_new73 (m := 9) 24 (.tmp 97) (by kernel_rfl) rfl ⟨rfl, rfl, rfl⟩ ⟨rfl, rfl, rfl⟩ (by simp) ?_
          have HF : Hid (∀ w', Below wr.heap.size wr w' → ∀ i, i < 5 → w'.rangeAt nb (i * 24) (NA (NN rh rl A (V2 ph pl) F i)).toList ∧ w'.rangeAt (nb + 1) (i * 24) (NA (L i)).toList) := fun w' hw' i hi => ((HI0.out.mono HT.out.1).mono hw').2 i hi
          simp only [List.take_succ_cons, List.take_zero]
          refine ChainL.frame ?_
          intro a0 ha0
          have hsz : a0.tmps.size = 156 := by rw [ha0]; rfl
          have e22 : a0.eval (.tmp 22) = .int .i64 (m : Nat) := by rw [ha0]; rfl
          have e17 : a0.eval (.tmp 17) = .pointer (some ⟨nb, 0, none⟩) := by rw [ha0]; rfl
          have e18 : a0.eval (.tmp 18) = .pointer (some ⟨nb + 1, 0, none⟩) := by rw [ha0]; rfl
          refine ChainL.step (.int .i64 (m : Nat)) (g_move rfl (.tmp 22) rfl _ (by simp (decide := true) only [ev_eq, ev_ne, ev_const, put_size, hsz, e22, e17, e18])) ?_
          refine ChainL.step _ (g_index rfl 76 24 (.tmp 18) (.tmp 89) rfl (nb + 1) 0 m (by simp (decide := true) only [ev_eq, ev_ne, ev_const, put_size, hsz, e22, e17, e18]) (by simp (decide := true) only [ev_eq, ev_ne, ev_const, put_size, hsz, e22, e17, e18]) (idx76 _ _ _ (by omega))) ?_
          refine ChainL.step _ (g_load73 rfl (.tmp 90) rfl (nb + 1) (0 + m * 24) (L m) (by simp (decide := true) only [ev_eq, ev_ne, ev_const, put_size, hsz, e22, e17, e18]) (fun w' hw' => by rw [Nat.zero_add]; exact ((HF.out w' hw') m (by omega)).2)) ?_
          refine ChainL.step _ (g_index rfl 76 24 (.tmp 18) (.const (.int .i64 3)) rfl (nb + 1) 0 3 (by simp (decide := true) only [ev_eq, ev_ne, ev_const, put_size, hsz, e22, e17, e18]) rfl (idx76 _ _ _ (by omega))) ?_
          refine ChainL.step _ (g_load73 rfl (.tmp 92) rfl (nb + 1) (0 + 3 * 24) (L 3) (by simp (decide := true) only [ev_eq, ev_ne, ev_const, put_size, hsz, e22, e17, e18]) (fun w' hw' => by rw [Nat.zero_add]; exact ((HF.out w' hw') 3 (by omega)).2)) ?_
          refine ChainL.step _ (g_call rfl 20 _ rfl rfl #[.agg (NA (L m)), .agg (NA (L 3))] (by simp (decide := true) [ev_eq, ev_ne, ev_const, put_size, hsz]) (cf20 _) _ (fun w' _ => mulN (L m) (L 3) w')) ?_
          refine ChainL.step _ (g_index rfl 76 24 (.tmp 18) (.const (.int .i64 4)) rfl (nb + 1) 0 4 (by simp (decide := true) only [ev_eq, ev_ne, ev_const, put_size, hsz, e22, e17, e18]) rfl (idx76 _ _ _ (by omega))) ?_
          refine ChainL.step _ (g_load73 rfl (.tmp 95) rfl (nb + 1) (0 + 4 * 24) (L 4) (by simp (decide := true) only [ev_eq, ev_ne, ev_const, put_size, hsz, e22, e17, e18]) (fun w' hw' => by rw [Nat.zero_add]; exact ((HF.out w' hw') 4 (by omega)).2)) ?_
          refine ChainL.step _ (g_call rfl 20 _ rfl rfl #[.agg (NA (L m * L 3)), .agg (NA (L 4))] (by simp (decide := true) [ev_eq, ev_ne, ev_const, put_size, hsz]) (cf20 _) _ (fun w' _ => mulN (L m * L 3) (L 4) w')) ?_
          refine ChainL.done ⟨by simp (decide := true) only [put_size, hsz], L m * L 3 * L 4, (by simp (decide := true) only [ev_eq, ev_ne, ev_const, put_size, hsz, e22, e17, e18]), ?_⟩
          intro b24 w' hS hb1 hb2 hb3
          rw [ha0]
          simp only [Act.put, List.setIfInBounds_toArray, List.set_cons_succ, List.set_cons_zero]
          have HG : Hid (LoopI w bP bF nb rh rl A L (V2 ph pl) F 5 (w'.setCells b24 0 (NA (L m * L 3 * L 4)).toList) ∧ (w'.setCells b24 0 (NA (L m * L 3 * L 4)).toList).rangeAt b24 0 (NA (L m * L 3 * L 4)).toList ∧ b24 < (w'.setCells b24 0 (NA (L m * L 3 * L 4)).toList).heap.size) := ⟨((HI0.out.mono HT.out.1).mono hS).fresh (by have := (HI0.out.mono HT.out.1).1.2.2.2.2.1; omega) _, World.rangeAt_setCells_same _ _ _ _ (by rw [NA_len]; exact hb3), by rw [size_setCells]; exact hb2⟩
          generalize w'.setCells b24 0 (NA (L m * L 3 * L 4)).toList = W7 at *
          clear hS hb1 hb2 hb3 HF ha0 hsz e22 e17 e18 w' a0 HI0 HT
          go_wp2_with fail
          refine region_new73 (m := 29) 25 (.tmp 126) (by kernel_rfl) rfl ⟨rfl, rfl, rfl⟩ ⟨rfl, rfl, rfl⟩ (by simp) ?_
          have HF : Hid (∀ w', Below W7.heap.size W7 w' → ∀ i, i < 5 → w'.rangeAt nb (i * 24) (NA (NN rh rl A (V2 ph pl) F i)).toList ∧ w'.rangeAt (nb + 1) (i * 24) (NA (L i)).toList) := fun w' hw' i hi => (HG.out.1.mono hw').2 i hi
          simp only [List.take_succ_cons, List.take_zero]
          refine ChainL.frame ?_
          intro a0 ha0
          have hsz : a0.tmps.size = 156 := by rw [ha0]; rfl
          have e22 : a0.eval (.tmp 22) = .int .i64 (m : Nat) := by rw [ha0]; rfl
          have e17 : a0.eval (.tmp 17) = .pointer (some ⟨nb, 0, none⟩) := by rw [ha0]; rfl
          have e18 : a0.eval (.tmp 18) = .pointer (some ⟨nb + 1, 0, none⟩) := by rw [ha0]; rfl
          refine ChainL.step (.int .i64 (m : Nat)) (g_move rfl (.tmp 22) rfl _ (by simp (decide := true) only [ev_eq, ev_ne, ev_const, put_size, hsz, e22, e17, e18])) ?_
          refine ChainL.step _ (g_index rfl 76 24 (.tmp 17) (.tmp 98) rfl nb 0 m (by simp (decide := true) only [ev_eq, ev_ne, ev_const, put_size, hsz, e22, e17, e18]) (by simp (decide := true) only [ev_eq, ev_ne, ev_const, put_size, hsz, e22, e17, e18]) (idx76 _ _ _ (by omega))) ?_
          refine ChainL.step _ (g_load73 rfl (.tmp 99) rfl nb (0 + m * 24) (NN rh rl A (V2 ph pl) F m) (by simp (decide := true) only [ev_eq, ev_ne, ev_const, put_size, hsz, e22, e17, e18]) (fun w' hw' => by rw [Nat.zero_add]; exact ((HF.out w' hw') m (by omega)).1)) ?_
          refine ChainL.step _ (g_index rfl 76 24 (.tmp 18) (.const (.int .i64 3)) rfl (nb + 1) 0 3 (by simp (decide := true) only [ev_eq, ev_ne, ev_const, put_size, hsz, e22, e17, e18]) rfl (idx76 _ _ _ (by omega))) ?_
          refine ChainL.step _ (g_load73 rfl (.tmp 101) rfl (nb + 1) (0 + 3 * 24) (L 3) (by simp (decide := true) only [ev_eq, ev_ne, ev_const, put_size, hsz, e22, e17, e18]) (fun w' hw' => by rw [Nat.zero_add]; exact ((HF.out w' hw') 3 (by omega)).2)) ?_
          refine ChainL.step _ (g_index rfl 76 24 (.tmp 18) (.const (.int .i64 4)) rfl (nb + 1) 0 4 (by simp (decide := true) only [ev_eq, ev_ne, ev_const, put_size, hsz, e22, e17, e18]) rfl (idx76 _ _ _ (by omega))) ?_
          refine ChainL.step _ (g_load73 rfl (.tmp 103) rfl (nb + 1) (0 + 4 * 24) (L 4) (by simp (decide := true) only [ev_eq, ev_ne, ev_const, put_size, hsz, e22, e17, e18]) (fun w' hw' => by rw [Nat.zero_add]; exact ((HF.out w' hw') 4 (by omega)).2)) ?_
          refine ChainL.step _ (g_call rfl 20 _ rfl rfl #[.agg (NA (L 3)), .agg (NA (L 4))] (by simp (decide := true) [ev_eq, ev_ne, ev_const, put_size, hsz]) (cf20 _) _ (fun w' _ => mulN (L 3) (L 4) w')) ?_
          refine ChainL.step _ (g_call rfl 20 _ rfl rfl #[.agg (NA (NN rh rl A (V2 ph pl) F m)), .agg (NA (L 3 * L 4))] (by simp (decide := true) [ev_eq, ev_ne, ev_const, put_size, hsz]) (cf20 _) _ (fun w' _ => mulN (NN rh rl A (V2 ph pl) F m) (L 3 * L 4) w')) ?_
          refine ChainL.step _ (g_index rfl 76 24 (.tmp 17) (.const (.int .i64 3)) rfl nb 0 3 (by simp (decide := true) only [ev_eq, ev_ne, ev_const, put_size, hsz, e22, e17, e18]) rfl (idx76 _ _ _ (by omega))) ?_
          refine ChainL.step _ (g_load73 rfl (.tmp 107) rfl nb (0 + 3 * 24) (NN rh rl A (V2 ph pl) F 3) (by simp (decide := true) only [ev_eq, ev_ne, ev_const, put_size, hsz, e22, e17, e18]) (fun w' hw' => by rw [Nat.zero_add]; exact ((HF.out w' hw') 3 (by omega)).1)) ?_
          refine ChainL.step (.int .i64 (m : Nat)) (g_move rfl (.tmp 22) rfl _ (by simp (decide := true) only [ev_eq, ev_ne, ev_const, put_size, hsz, e22, e17, e18])) ?_
          refine ChainL.step _ (g_index rfl 76 24 (.tmp 18) (.tmp 109) rfl (nb + 1) 0 m (by simp (decide := true) only [ev_eq, ev_ne, ev_const, put_size, hsz, e22, e17, e18]) (by simp (decide := true) only [ev_eq, ev_ne, ev_const, put_size, hsz, e22, e17, e18]) (idx76 _ _ _ (by omega))) ?_
          refine ChainL.step _ (g_load73 rfl (.tmp 110) rfl (nb + 1) (0 + m * 24) (L m) (by simp (decide := true) only [ev_eq, ev_ne, ev_const, put_size, hsz, e22, e17, e18]) (fun w' hw' => by rw [Nat.zero_add]; exact ((HF.out w' hw') m (by omega)).2)) ?_
          refine ChainL.step _ (g_index rfl 76 24 (.tmp 18) (.const (.int .i64 4)) rfl (nb + 1) 0 4 (by simp (decide := true) only [ev_eq, ev_ne, ev_const, put_size, hsz, e22, e17, e18]) rfl (idx76 _ _ _ (by omega))) ?_
          refine ChainL.step _ (g_load73 rfl (.tmp 112) rfl (nb + 1) (0 + 4 * 24) (L 4) (by simp (decide := true) only [ev_eq, ev_ne, ev_const, put_size, hsz, e22, e17, e18]) (fun w' hw' => by rw [Nat.zero_add]; exact ((HF.out w' hw') 4 (by omega)).2)) ?_
          refine ChainL.step _ (g_call rfl 20 _ rfl rfl #[.agg (NA (L m)), .agg (NA (L 4))] (by simp (decide := true) [ev_eq, ev_ne, ev_const, put_size, hsz]) (cf20 _) _ (fun w' _ => mulN (L m) (L 4) w')) ?_
          refine ChainL.step _ (g_call rfl 20 _ rfl rfl #[.agg (NA (NN rh rl A (V2 ph pl) F 3)), .agg (NA (L m * L 4))] (by simp (decide := true) [ev_eq, ev_ne, ev_const, put_size, hsz]) (cf20 _) _ (fun w' _ => mulN (NN rh rl A (V2 ph pl) F 3) (L m * L 4) w')) ?_
          refine ChainL.step _ (g_call rfl 22 _ rfl rfl #[.agg (NA (NN rh rl A (V2 ph pl) F m * (L 3 * L 4))), .agg (NA (NN rh rl A (V2 ph pl) F 3 * (L m * L 4)))] (by simp (decide := true) [ev_eq, ev_ne, ev_const, put_size, hsz]) (cf22 _) _ (fun w' _ => addN (NN rh rl A (V2 ph pl) F m * (L 3 * L 4)) (NN rh rl A (V2 ph pl) F 3 * (L m * L 4)) w')) ?_
          refine ChainL.step _ (g_index rfl 76 24 (.tmp 17) (.const (.int .i64 4)) rfl nb 0 4 (by simp (decide := true) only [ev_eq, ev_ne, ev_const, put_size, hsz, e22, e17, e18]) rfl (idx76 _ _ _ (by omega))) ?_
          refine ChainL.step _ (g_load73 rfl (.tmp 117) rfl nb (0 + 4 * 24) (NN rh rl A (V2 ph pl) F 4) (by simp (decide := true) only [ev_eq, ev_ne, ev_const, put_size, hsz, e22, e17, e18]) (fun w' hw' => by rw [Nat.zero_add]; exact ((HF.out w' hw') 4 (by omega)).1)) ?_
          refine ChainL.step (.int .i64 (m : Nat)) (g_move rfl (.tmp 22) rfl _ (by simp (decide := true) only [ev_eq, ev_ne, ev_const, put_size, hsz, e22, e17, e18])) ?_
          refine ChainL.step _ (g_index rfl 76 24 (.tmp 18) (.tmp 119) rfl (nb + 1) 0 m (by simp (decide := true) only [ev_eq, ev_ne, ev_const, put_size, hsz, e22, e17, e18]) (by simp (decide := true) only [ev_eq, ev_ne, ev_const, put_size, hsz, e22, e17, e18]) (idx76 _ _ _ (by omega))) ?_
          refine ChainL.step _ (g_load73 rfl (.tmp 120) rfl (nb + 1) (0 + m * 24) (L m) (by simp (decide := true) only [ev_eq, ev_ne, ev_const, put_size, hsz, e22, e17, e18]) (fun w' hw' => by rw [Nat.zero_add]; exact ((HF.out w' hw') m (by omega)).2)) ?_
          refine ChainL.step _ (g_index rfl 76 24 (.tmp 18) (.const (.int .i64 3)) rfl (nb + 1) 0 3 (by simp (decide := true) only [ev_eq, ev_ne, ev_const, put_size, hsz, e22, e17, e18]) rfl (idx76 _ _ _ (by omega))) ?_
          refine ChainL.step _ (g_load73 rfl (.tmp 122) rfl (nb + 1) (0 + 3 * 24) (L 3) (by simp (decide := true) only [ev_eq, ev_ne, ev_const, put_size, hsz, e22, e17, e18]) (fun w' hw' => by rw [Nat.zero_add]; exact ((HF.out w' hw') 3 (by omega)).2)) ?_
          refine ChainL.step _ (g_call rfl 20 _ rfl rfl #[.agg (NA (L m)), .agg (NA (L 3))] (by simp (decide := true) [ev_eq, ev_ne, ev_const, put_size, hsz]) (cf20 _) _ (fun w' _ => mulN (L m) (L 3) w')) ?_
          refine ChainL.step _ (g_call rfl 20 _ rfl rfl #[.agg (NA (NN rh rl A (V2 ph pl) F 4)), .agg (NA (L m * L 3))] (by simp (decide := true) [ev_eq, ev_ne, ev_const, put_size, hsz]) (cf20 _) _ (fun w' _ => mulN (NN rh rl A (V2 ph pl) F 4) (L m * L 3) w')) ?_
          refine ChainL.step _ (g_call rfl 22 _ rfl rfl #[.agg (NA (NN rh rl A (V2 ph pl) F m * (L 3 * L 4) + NN rh rl A (V2 ph pl) F 3 * (L m * L 4))), .agg (NA (NN rh rl A (V2 ph pl) F 4 * (L m * L 3)))] (by simp (decide := true) [ev_eq, ev_ne, ev_const, put_size, hsz]) (cf22 _) _ (fun w' _ => addN (NN rh rl A (V2 ph pl) F m * (L 3 * L 4) + NN rh rl A (V2 ph pl) F 3 * (L m * L 4)) (NN rh rl A (V2 ph pl) F 4 * (L m * L 3)) w')) ?_
          refine ChainL.done ⟨by simp (decide := true) only [put_size, hsz], NN rh rl A (V2 ph pl) F m * (L 3 * L 4) + NN rh rl A (V2 ph pl) F 3 * (L m * L 4) + NN rh rl A (V2 ph pl) F 4 * (L m * L 3), (by simp (decide := true) only [ev_eq, ev_ne, ev_const, put_size, hsz, e22, e17, e18]), ?_⟩
          intro b25 w' hS hb1 hb2 hb3
          rw [ha0]
          simp only [Act.put, List.setIfInBounds_toArray, List.set_cons_succ, List.set_cons_zero]
          have HG2 : Hid (Below w.heap.size w (w'.setCells b25 0 (NA (NN rh rl A (V2 ph pl) F m * (L 3 * L 4) + NN rh rl A (V2 ph pl) F 3 * (L m * L 4) + NN rh rl A (V2 ph pl) F 4 * (L m * L 3))).toList) ∧ (w'.setCells b25 0 (NA (NN rh rl A (V2 ph pl) F m * (L 3 * L 4) + NN rh rl A (V2 ph pl) F 3 * (L m * L 4) + NN rh rl A (V2 ph pl) F 4 * (L m * L 3))).toList).rangeAt b24 0 (NA (L m * L 3 * L 4)).toList ∧ b24 < (w'.setCells b25 0 (NA (NN rh rl A (V2 ph pl) F m * (L 3 * L 4) + NN rh rl A (V2 ph pl) F 3 * (L m * L 4) + NN rh rl A (V2 ph pl) F 4 * (L m * L 3))).toList).heap.size ∧ (w'.setCells b25 0 (NA (NN rh rl A (V2 ph pl) F m * (L 3 * L 4) + NN rh rl A (V2 ph pl) F 3 * (L m * L 4) + NN rh rl A (V2 ph pl) F 4 * (L m * L 3))).toList).rangeAt b25 0 (NA (NN rh rl A (V2 ph pl) F m * (L 3 * L 4) + NN rh rl A (V2 ph pl) F 3 * (L m * L 4) + NN rh rl A (V2 ph pl) F 4 * (L m * L 3))).toList ∧ b25 < (w'.setCells b25 0 (NA (NN rh rl A (V2 ph pl) F m * (L 3 * L 4) + NN rh rl A (V2 ph pl) F 3 * (L m * L 4) + NN rh rl A (V2 ph pl) F 4 * (L m * L 3))).toList).heap.size) := by
            have g1 := (HG.out.1.mono hS).fresh (b := b25) (by have := HG.out.1.1.2.2.2.2.1; omega) (NA (NN rh rl A (V2 ph pl) F m * (L 3 * L 4) + NN rh rl A (V2 ph pl) F 3 * (L m * L 4) + NN rh rl A (V2 ph pl) F 4 * (L m * L 3))).toList
            have g2 := hS.size
            have g3 := HG.out.2.2
            refine ⟨g1.1.1, World.rangeAt_setCells_apart (range_below HG.out.2.1 HG.out.2.2 hS) _ _ _ (Or.inl (by omega)), by rw [size_setCells]; omega, World.rangeAt_setCells_same _ _ _ _ (by rw [NA_len]; exact hb3), by rw [size_setCells]; exact hb2⟩
          generalize w'.setCells b25 0 (NA (NN rh rl A (V2 ph pl) F m * (L 3 * L 4) + NN rh rl A (V2 ph pl) F 3 * (L m * L 4) + NN rh rl A (V2 ph pl) F 4 * (L m * L 3))).toList = W8 at *
          clear hS hb1 hb2 hb3 HF ha0 hsz e22 e17 e18 w' a0 HG W7
          have HN : Hid (W8.rangeAt b24 0 (NA (L m * L 3 * L 4)).toList) := HG2.out.2.1
          go_wp2_with (refine wpList_load_mid rfl 73 (.tmp 24) rfl b24 0 rfl (NA (L m * L 3 * L 4)).toList _ HN.out Try.underlying73 rfl (NA_info' _) ?_)
          try simp only [Array.toArray_toList]
          refine (shlN (L m * L 3 * L 4) _).mono ?_
          rintro e w9 ⟨rfl, hb⟩
          have HG3 : Hid (Below w.heap.size w w9 ∧ w9.rangeAt b25 0 (NA (NN rh rl A (V2 ph pl) F m * (L 3 * L 4) + NN rh rl A (V2 ph pl) F 3 * (L m * L 4) + NN rh rl A (V2 ph pl) F 4 * (L m * L 3))).toList ∧ b25 < w9.heap.size) := ⟨HG2.out.1.trans (hb.mono HG2.out.1.size), range_below HG2.out.2.2.2.1 HG2.out.2.2.2.2 hb, by have := hb.size; have := HG2.out.2.2.2.2; omega⟩
          clear hb HG2 HN
          have HZ : Hid ((#[.int .u32 0, .int .u32 0, .int .u32 0, .int .u32 0, .int .u32 0, .int .u32 0, .int .u32 0, .int .u32 0, .int .u32 0, .int .u32 0, .int .u32 0, .int .u32 0, .int .u32 0, .int .u32 0, .int .u32 0, .int .u32 0, .int .u32 0, .int .u32 0, .int .u32 0, .int .u32 0, .int .u32 0, .int .u32 0, .int .u32 0, .int .u32 0] : Array Value).size = 24) := rfl
          go_upto_region 22 with (refine wpList_store_mid rfl 73 (.tmp 26) (.tmp 128) rfl w9.heap.size 0 (NA (L m * L 3 * L 4 * 340282366920938463463374607431768211456)) rfl rfl (there_new24 w9 _ _ HZ.out) (NA_info _) (NA_ones _) ?_)
          obtain ⟨x1, x2, x3⟩ := laid w9 (L m * L 3 * L 4 * 340282366920938463463374607431768211456) #[.int .u32 0, .int .u32 0, .int .u32 0, .int .u32 0, .int .u32 0, .int .u32 0, .int .u32 0, .int .u32 0, .int .u32 0, .int .u32 0, .int .u32 0, .int .u32 0, .int .u32 0, .int .u32 0, .int .u32 0, .int .u32 0, .int .u32 0, .int .u32 0, .int .u32 0, .int .u32 0, .int .u32 0, .int .u32 0, .int .u32 0, .int .u32 0] HZ.out
          generalize (w9.alloc (.cells #[.int .u32 0, .int .u32 0, .int .u32 0, .int .u32 0, .int .u32 0, .int .u32 0, .int .u32 0, .int .u32 0, .int .u32 0, .int .u32 0, .int .u32 0, .int .u32 0, .int .u32 0, .int .u32 0, .int .u32 0, .int .u32 0, .int .u32 0, .int .u32 0, .int .u32 0, .int .u32 0, .int .u32 0, .int .u32 0, .int .u32 0, .int .u32 0] 73)).setCells w9.heap.size 0 (NA (L m * L 3 * L 4 * 340282366920938463463374607431768211456)).toList = W9 at *
          have HG4 : Hid (Below w.heap.size w W9 ∧ W9.rangeAt b25 0 (NA (NN rh rl A (V2 ph pl) F m * (L 3 * L 4) + NN rh rl A (V2 ph pl) F 3 * (L m * L 4) + NN rh rl A (V2 ph pl) F 4 * (L m * L 3))).toList ∧ b25 < W9.heap.size ∧ W9.rangeAt w9.heap.size 0 (NA (L m * L 3 * L 4 * 340282366920938463463374607431768211456)).toList ∧ w9.heap.size < W9.heap.size) := ⟨HG3.out.1.trans (x2.mono HG3.out.1.size), range_below HG3.out.2.1 HG3.out.2.2 x2, by have := HG3.out.2.2; omega, x1, x3⟩
          clear x1 x2 x3 HG3 HZ
          generalize w9.heap.size = b26 at *
          have HV : Hid (∀ f : Int, (f * (L m * L 3 * L 4 * 340282366920938463463374607431768211456) < NN rh rl A (V2 ph pl) F m * (L 3 * L 4) + NN rh rl A (V2 ph pl) F 3 * (L m * L 4) + NN rh rl A (V2 ph pl) F 4 * (L m * L 3) ↔ f * 340282366920938463463374607431768211456 * DD L m < TT (NN rh rl A (V2 ph pl) F) L m) ∧ (NN rh rl A (V2 ph pl) F m * (L 3 * L 4) + NN rh rl A (V2 ph pl) F 3 * (L m * L 4) + NN rh rl A (V2 ph pl) F 4 * (L m * L 3) ≤ f * (L m * L 3 * L 4 * 340282366920938463463374607431768211456) ↔ TT (NN rh rl A (V2 ph pl) F) L m ≤ f * 340282366920938463463374607431768211456 * DD L m)) := by
            intro f
            have e : f * (L m * L 3 * L 4 * 340282366920938463463374607431768211456) = f * 340282366920938463463374607431768211456 * DD L m := by rw [← HU.out.2]; generalize L m * L 3 * L 4 = z; rw [Int.mul_comm z, Int.mul_assoc]
            rw [e, HU.out.1]
            exact ⟨Iff.rfl, Iff.rfl⟩
          have HSu : Hid (∀ f, Word f → 0 ≤ f * (L m * L 3 * L 4 * 340282366920938463463374607431768211456) ∧ f * (L m * L 3 * L 4 * 340282366920938463463374607431768211456) < BB 24) := fun f hf => small_up (small_mul (small_word hf) HSm.out.2) (by omega)
          cases ok with
          | false =>
            go_wp2_with fail
            refine region_all73 (by kernel_rfl) ?_
            refine ChainL.frame ?_
            intro a0 ha0
            have hsz : a0.tmps.size = 156 := by rw [ha0]; rfl
            have e25 : a0.eval (.tmp 25) = .pointer (some ⟨b25, 0, none⟩) := by rw [ha0]; rfl
            have e26 : a0.eval (.tmp 26) = .pointer (some ⟨b26, 0, none⟩) := by rw [ha0]; rfl
            have e5 : a0.eval (.tmp 5) = .int .u64 fee := by rw [ha0]; rfl
            refine ChainL.step _ (g_load73 rfl (.tmp 25) rfl b25 0 (NN rh rl A (V2 ph pl) F m * (L 3 * L 4) + NN rh rl A (V2 ph pl) F 3 * (L m * L 4) + NN rh rl A (V2 ph pl) F 4 * (L m * L 3)) (by simp (decide := true) only [ev_eq, ev_ne, ev_const, put_size, hsz, e25, e26, e5]) (fun w' hw' => range_below HG4.out.2.1 HG4.out.2.2.1 hw')) ?_
            refine ChainL.step _ (g_call rfl 19 _ rfl rfl #[.int .u64 18446744073709551615] (by simp (decide := true) [ev_eq, ev_ne, ev_const, put_size, hsz]) (cf19 _) _ (fun w' _ => ofW 18446744073709551615 ⟨by decide, by decide⟩ w')) ?_
            refine ChainL.step _ (g_load73 rfl (.tmp 26) rfl b26 0 (L m * L 3 * L 4 * 340282366920938463463374607431768211456) (by simp (decide := true) only [ev_eq, ev_ne, ev_const, put_size, hsz, e25, e26, e5]) (fun w' hw' => range_below HG4.out.2.2.2.1 HG4.out.2.2.2.2 hw')) ?_
            refine ChainL.step _ (g_call rfl 20 _ rfl rfl #[.agg (NA 18446744073709551615), .agg (NA (L m * L 3 * L 4 * 340282366920938463463374607431768211456))] (by simp (decide := true) [ev_eq, ev_ne, ev_const, put_size, hsz]) (cf20 _) _ (fun w' _ => mulN 18446744073709551615 (L m * L 3 * L 4 * 340282366920938463463374607431768211456) w')) ?_
            refine ChainL.step _ (g_call rfl 21 _ rfl rfl #[.agg (NA (NN rh rl A (V2 ph pl) F m * (L 3 * L 4) + NN rh rl A (V2 ph pl) F 3 * (L m * L 4) + NN rh rl A (V2 ph pl) F 4 * (L m * L 3))), .agg (NA (18446744073709551615 * (L m * L 3 * L 4 * 340282366920938463463374607431768211456)))] (by simp (decide := true) [ev_eq, ev_ne, ev_const, put_size, hsz]) (cf21 _) _ (fun w' _ => cmpN _ _ HSm.out.1 (HSu.out _ ⟨by decide, by decide⟩) w')) ?_
            refine ChainL.step _ (h_gtr (wanted_none rfl) (.tmp 135) rfl (cmpI (NN rh rl A (V2 ph pl) F m * (L 3 * L 4) + NN rh rl A (V2 ph pl) F 3 * (L m * L 4) + NN rh rl A (V2 ph pl) F 4 * (L m * L 3)) (18446744073709551615 * (L m * L 3 * L 4 * 340282366920938463463374607431768211456))) (by simp (decide := true) only [ev_eq, ev_ne, ev_const, put_size, hsz, e25, e26, e5])) ?_
            refine ChainL.step _ (g_assign rfl (.tmp 136) rfl (.bool true) (by simp (decide := true) only [ev_eq, ev_ne, ev_const, put_size, hsz]; rw [decide_eq_true (cmpI_pos.2 (((HV.out 18446744073709551615).1).2 (HR.out.2 rfl)))])) ?_
            refine ChainL.done ?_
            intro w' hS
            rw [ha0]
            simp only [Act.put, List.setIfInBounds_toArray, List.set_cons_succ, List.set_cons_zero]
            have HS : Hid (Below w.heap.size w w') := HG4.out.1.trans (hS.mono HG4.out.1.size)
            clear hS ha0 hsz e25 e26 e5 a0
            go_wp2_with fail
            go_ret
            exact ⟨rfl, HS.out⟩
          | true =>
            go_wp2_with fail
            refine region_all73 (by kernel_rfl) ?_
            refine ChainL.frame ?_
            intro a0 ha0
            have hsz : a0.tmps.size = 156 := by rw [ha0]; rfl
            have e25 : a0.eval (.tmp 25) = .pointer (some ⟨b25, 0, none⟩) := by rw [ha0]; rfl
            have e26 : a0.eval (.tmp 26) = .pointer (some ⟨b26, 0, none⟩) := by rw [ha0]; rfl
            have e5 : a0.eval (.tmp 5) = .int .u64 fee := by rw [ha0]; rfl
            refine ChainL.step (.int .u64 fee) (g_move rfl (.tmp 5) rfl _ (by simp (decide := true) only [ev_eq, ev_ne, ev_const, put_size, hsz, e25, e26, e5])) ?_
            refine ChainL.step _ (g_call rfl 19 _ rfl rfl #[.int .u64 fee] (by simp (decide := true) [ev_eq, ev_ne, ev_const, put_size, hsz]) (cf19 _) _ (fun w' _ => ofW fee HW.out.2.2.2.2.2 w')) ?_
            refine ChainL.step _ (g_load73 rfl (.tmp 26) rfl b26 0 (L m * L 3 * L 4 * 340282366920938463463374607431768211456) (by simp (decide := true) only [ev_eq, ev_ne, ev_const, put_size, hsz, e25, e26, e5]) (fun w' hw' => range_below HG4.out.2.2.2.1 HG4.out.2.2.2.2 hw')) ?_
            refine ChainL.step _ (g_call rfl 20 _ rfl rfl #[.agg (NA fee), .agg (NA (L m * L 3 * L 4 * 340282366920938463463374607431768211456))] (by simp (decide := true) [ev_eq, ev_ne, ev_const, put_size, hsz]) (cf20 _) _ (fun w' _ => mulN fee (L m * L 3 * L 4 * 340282366920938463463374607431768211456) w')) ?_
            refine ChainL.step _ (g_load73 rfl (.tmp 25) rfl b25 0 (NN rh rl A (V2 ph pl) F m * (L 3 * L 4) + NN rh rl A (V2 ph pl) F 3 * (L m * L 4) + NN rh rl A (V2 ph pl) F 4 * (L m * L 3)) (by simp (decide := true) only [ev_eq, ev_ne, ev_const, put_size, hsz, e25, e26, e5]) (fun w' hw' => range_below HG4.out.2.1 HG4.out.2.2.1 hw')) ?_
            refine ChainL.step _ (g_call rfl 21 _ rfl rfl #[.agg (NA (fee * (L m * L 3 * L 4 * 340282366920938463463374607431768211456))), .agg (NA (NN rh rl A (V2 ph pl) F m * (L 3 * L 4) + NN rh rl A (V2 ph pl) F 3 * (L m * L 4) + NN rh rl A (V2 ph pl) F 4 * (L m * L 3)))] (by simp (decide := true) [ev_eq, ev_ne, ev_const, put_size, hsz]) (cf21 _) _ (fun w' _ => cmpN _ _ (HSu.out _ HW.out.2.2.2.2.2) HSm.out.1 w')) ?_
            refine ChainL.step _ (h_lss (wanted_none rfl) (.tmp 142) rfl (cmpI (fee * (L m * L 3 * L 4 * 340282366920938463463374607431768211456)) (NN rh rl A (V2 ph pl) F m * (L 3 * L 4) + NN rh rl A (V2 ph pl) F 3 * (L m * L 4) + NN rh rl A (V2 ph pl) F 4 * (L m * L 3))) (by simp (decide := true) only [ev_eq, ev_ne, ev_const, put_size, hsz, e25, e26, e5])) ?_
            refine ChainL.done ?_
            intro w' hS
            rw [ha0]
            simp only [Act.put, List.setIfInBounds_toArray, List.set_cons_succ, List.set_cons_zero]
            have HS : Hid (Below w.heap.size w w') := HG4.out.1.trans (hS.mono HG4.out.1.size)
            have HB9 : Hid (Below W9.heap.size W9 w') := hS
            clear hS ha0 hsz e25 e26 e5 a0
            have hcc : (cmpI (fee * (L m * L 3 * L 4 * 340282366920938463463374607431768211456)) (NN rh rl A (V2 ph pl) F m * (L 3 * L 4) + NN rh rl A (V2 ph pl) F 3 * (L m * L 4) + NN rh rl A (V2 ph pl) F 4 * (L m * L 3)) < 0) = False := by rw [cmpI_neg]; exact eq_false (Int.not_lt.2 (((HV.out fee).2).2 (HR.out.1 rfl).1))
            simp only [hcc]
            clear hcc
            have HG5 : Hid (Below w'.heap.size w' w' ∧ Below W9.heap.size W9 w') := ⟨Below.refl _ _, HB9.out⟩
            by_cases hz : fee = 0
            · go_wp2_with fail
              refine region_all73 (by kernel_rfl) ?_
              refine ChainL.frame ?_
              intro a0 ha0
              have hsz : a0.tmps.size = 156 := by rw [ha0]; rfl
              have e25 : a0.eval (.tmp 25) = .pointer (some ⟨b25, 0, none⟩) := by rw [ha0]; rfl
              have e26 : a0.eval (.tmp 26) = .pointer (some ⟨b26, 0, none⟩) := by rw [ha0]; rfl
              have e5 : a0.eval (.tmp 5) = .int .u64 fee := by rw [ha0]; rfl
              refine ChainL.step (.int .u64 fee) (g_move rfl (.tmp 5) rfl _ (by simp (decide := true) only [ev_eq, ev_ne, ev_const, put_size, hsz, e25, e26, e5])) ?_
              refine ChainL.step _ (h_eql (wanted_none rfl) (.tmp 144) rfl fee (by simp (decide := true) only [ev_eq, ev_ne, ev_const, put_size, hsz, e25, e26, e5]) true (by simp [hz])) ?_
              refine ChainL.step (.bool true) (g_move rfl (.tmp 145) rfl _ (by simp (decide := true) only [ev_eq, ev_ne, ev_const, put_size, hsz, e25, e26, e5])) ?_
              refine ChainL.step _ (h_skip (by rw [wanted_some (g := 2) (bb := false) (b' := true) rfl rfl rfl (by simp (decide := true) only [put_size, hsz]) (by simp (decide := true) only [ev_eq, ev_ne, ev_const, put_size, hsz, e25, e26, e5])]; rfl)) ?_
              refine ChainL.step _ (h_skip (by rw [wanted_some (g := 2) (bb := false) (b' := true) rfl rfl rfl (by simp (decide := true) only [put_size, hsz]) (by simp (decide := true) only [ev_eq, ev_ne, ev_const, put_size, hsz, e25, e26, e5])]; rfl)) ?_
              refine ChainL.step _ (h_skip (by rw [wanted_some (g := 2) (bb := false) (b' := true) rfl rfl rfl (by simp (decide := true) only [put_size, hsz]) (by simp (decide := true) only [ev_eq, ev_ne, ev_const, put_size, hsz, e25, e26, e5])]; rfl)) ?_
              refine ChainL.step _ (h_skip (by rw [wanted_some (g := 2) (bb := false) (b' := true) rfl rfl rfl (by simp (decide := true) only [put_size, hsz]) (by simp (decide := true) only [ev_eq, ev_ne, ev_const, put_size, hsz, e25, e26, e5])]; rfl)) ?_
              refine ChainL.step _ (h_skip (by rw [wanted_some (g := 2) (bb := false) (b' := true) rfl rfl rfl (by simp (decide := true) only [put_size, hsz]) (by simp (decide := true) only [ev_eq, ev_ne, ev_const, put_size, hsz, e25, e26, e5])]; rfl)) ?_
              refine ChainL.step _ (h_skip (by rw [wanted_some (g := 2) (bb := false) (b' := true) rfl rfl rfl (by simp (decide := true) only [put_size, hsz]) (by simp (decide := true) only [ev_eq, ev_ne, ev_const, put_size, hsz, e25, e26, e5])]; rfl)) ?_
              refine ChainL.step _ (h_skip (by rw [wanted_some (g := 2) (bb := false) (b' := true) rfl rfl rfl (by simp (decide := true) only [put_size, hsz]) (by simp (decide := true) only [ev_eq, ev_ne, ev_const, put_size, hsz, e25, e26, e5])]; rfl)) ?_
              refine ChainL.step _ (h_skip (by rw [wanted_some (g := 2) (bb := false) (b' := true) rfl rfl rfl (by simp (decide := true) only [put_size, hsz]) (by simp (decide := true) only [ev_eq, ev_ne, ev_const, put_size, hsz, e25, e26, e5])]; rfl)) ?_
              refine ChainL.step _ (h_pick (wanted_none rfl) (.tmp 146) (.const (.bool true)) (.tmp 154) rfl true (.bool true) (by simp (decide := true) only [ev_eq, ev_ne, ev_const, put_size, hsz, e25, e26, e5]) rfl) ?_
              refine ChainL.step _ (g_assign rfl (.tmp 155) rfl (.bool true) (by simp (decide := true) only [ev_eq, ev_ne, ev_const, put_size, hsz, e25, e26, e5])) ?_
              refine ChainL.done ?_
              intro w2 hS
              rw [ha0]
              simp only [Act.put, List.setIfInBounds_toArray, List.set_cons_succ, List.set_cons_zero]
              have HS2 : Hid (Below w.heap.size w w2) := HS.out.trans (hS.mono HS.out.size)
              clear hS ha0 hsz e25 e26 e5 a0
              go_wp2_with fail
              go_ret
              exact ⟨rfl, HS2.out⟩
            · have HWd : Hid (Word (fee - 1)) := by
                obtain ⟨h1, h2⟩ := HW.out.2.2.2.2.2
                exact ⟨by omega, by omega⟩
              have HCn : Hid (cmpI ((fee - 1) * (L m * L 3 * L 4 * 340282366920938463463374607431768211456)) (NN rh rl A (V2 ph pl) F m * (L 3 * L 4) + NN rh rl A (V2 ph pl) F 3 * (L m * L 4) + NN rh rl A (V2 ph pl) F 4 * (L m * L 3)) < 0) := by
                show _ < _
                rw [cmpI_neg]
                refine ((HV.out (fee - 1)).1).2 ?_
                rcases (HR.out.1 rfl).2 with h | h
                · exact absurd h hz
                · exact h
              go_wp2_with fail
              refine region_all73 (by kernel_rfl) ?_
              refine ChainL.frame ?_
              intro a0 ha0
              have hsz : a0.tmps.size = 156 := by rw [ha0]; rfl
              have e25 : a0.eval (.tmp 25) = .pointer (some ⟨b25, 0, none⟩) := by rw [ha0]; rfl
              have e26 : a0.eval (.tmp 26) = .pointer (some ⟨b26, 0, none⟩) := by rw [ha0]; rfl
              have e5 : a0.eval (.tmp 5) = .int .u64 fee := by rw [ha0]; rfl
              refine ChainL.step (.int .u64 fee) (g_move rfl (.tmp 5) rfl _ (by simp (decide := true) only [ev_eq, ev_ne, ev_const, put_size, hsz, e25, e26, e5])) ?_
              refine ChainL.step _ (h_eql (wanted_none rfl) (.tmp 144) rfl fee (by simp (decide := true) only [ev_eq, ev_ne, ev_const, put_size, hsz, e25, e26, e5]) false (by simp [hz])) ?_
              refine ChainL.step (.bool false) (g_move rfl (.tmp 145) rfl _ (by simp (decide := true) only [ev_eq, ev_ne, ev_const, put_size, hsz, e25, e26, e5])) ?_
              refine ChainL.step (.int .u64 fee) (h_move (by rw [wanted_some (g := 2) (bb := false) (b' := false) rfl rfl rfl (by simp (decide := true) only [put_size, hsz]) (by simp (decide := true) only [ev_eq, ev_ne, ev_const, put_size, hsz, e25, e26, e5])]; rfl) (.tmp 5) rfl _ (by simp (decide := true) only [ev_eq, ev_ne, ev_const, put_size, hsz, e25, e26, e5])) ?_
              refine ChainL.step _ (h_dec (by rw [wanted_some (g := 2) (bb := false) (b' := false) rfl rfl rfl (by simp (decide := true) only [put_size, hsz]) (by simp (decide := true) only [ev_eq, ev_ne, ev_const, put_size, hsz, e25, e26, e5])]; rfl) (.tmp 147) rfl fee (by simp (decide := true) only [ev_eq, ev_ne, ev_const, put_size, hsz, e25, e26, e5]) HW.out.2.2.2.2.2 hz) ?_
              refine ChainL.step _ (h_call (by rw [wanted_some (g := 2) (bb := false) (b' := false) rfl rfl rfl (by simp (decide := true) only [put_size, hsz]) (by simp (decide := true) only [ev_eq, ev_ne, ev_const, put_size, hsz, e25, e26, e5])]; rfl) 19 _ rfl rfl #[.int .u64 (fee - 1)] (by simp (decide := true) [ev_eq, ev_ne, ev_const, put_size, hsz]) (cf19 _) _ (fun w2 _ => ofW (fee - 1) HWd.out w2)) ?_
              refine ChainL.step _ (h_load73 (by rw [wanted_some (g := 2) (bb := false) (b' := false) rfl rfl rfl (by simp (decide := true) only [put_size, hsz]) (by simp (decide := true) only [ev_eq, ev_ne, ev_const, put_size, hsz, e25, e26, e5])]; rfl) (.tmp 26) rfl b26 0 (L m * L 3 * L 4 * 340282366920938463463374607431768211456) (by simp (decide := true) only [ev_eq, ev_ne, ev_const, put_size, hsz, e25, e26, e5]) (fun w2 hw2 => range_below HG4.out.2.2.2.1 HG4.out.2.2.2.2 (HB9.out.trans (hw2.mono HB9.out.size)))) ?_
              refine ChainL.step _ (h_call (by rw [wanted_some (g := 2) (bb := false) (b' := false) rfl rfl rfl (by simp (decide := true) only [put_size, hsz]) (by simp (decide := true) only [ev_eq, ev_ne, ev_const, put_size, hsz, e25, e26, e5])]; rfl) 20 _ rfl rfl #[.agg (NA (fee - 1)), .agg (NA (L m * L 3 * L 4 * 340282366920938463463374607431768211456))] (by simp (decide := true) [ev_eq, ev_ne, ev_const, put_size, hsz]) (cf20 _) _ (fun w2 _ => mulN (fee - 1) (L m * L 3 * L 4 * 340282366920938463463374607431768211456) w2)) ?_
              refine ChainL.step _ (h_load73 (by rw [wanted_some (g := 2) (bb := false) (b' := false) rfl rfl rfl (by simp (decide := true) only [put_size, hsz]) (by simp (decide := true) only [ev_eq, ev_ne, ev_const, put_size, hsz, e25, e26, e5])]; rfl) (.tmp 25) rfl b25 0 (NN rh rl A (V2 ph pl) F m * (L 3 * L 4) + NN rh rl A (V2 ph pl) F 3 * (L m * L 4) + NN rh rl A (V2 ph pl) F 4 * (L m * L 3)) (by simp (decide := true) only [ev_eq, ev_ne, ev_const, put_size, hsz, e25, e26, e5]) (fun w2 hw2 => range_below HG4.out.2.1 HG4.out.2.2.1 (HB9.out.trans (hw2.mono HB9.out.size)))) ?_
              refine ChainL.step _ (h_call (by rw [wanted_some (g := 2) (bb := false) (b' := false) rfl rfl rfl (by simp (decide := true) only [put_size, hsz]) (by simp (decide := true) only [ev_eq, ev_ne, ev_const, put_size, hsz, e25, e26, e5])]; rfl) 21 _ rfl rfl #[.agg (NA ((fee - 1) * (L m * L 3 * L 4 * 340282366920938463463374607431768211456))), .agg (NA (NN rh rl A (V2 ph pl) F m * (L 3 * L 4) + NN rh rl A (V2 ph pl) F 3 * (L m * L 4) + NN rh rl A (V2 ph pl) F 4 * (L m * L 3)))] (by simp (decide := true) [ev_eq, ev_ne, ev_const, put_size, hsz]) (cf21 _) _ (fun w2 _ => cmpN _ _ (HSu.out _ HWd.out) HSm.out.1 w2)) ?_
              refine ChainL.step _ (h_lss (by rw [wanted_some (g := 2) (bb := false) (b' := false) rfl rfl rfl (by simp (decide := true) only [put_size, hsz]) (by simp (decide := true) only [ev_eq, ev_ne, ev_const, put_size, hsz, e25, e26, e5])]; rfl) (.tmp 153) rfl (cmpI ((fee - 1) * (L m * L 3 * L 4 * 340282366920938463463374607431768211456)) (NN rh rl A (V2 ph pl) F m * (L 3 * L 4) + NN rh rl A (V2 ph pl) F 3 * (L m * L 4) + NN rh rl A (V2 ph pl) F 4 * (L m * L 3))) (by simp (decide := true) only [ev_eq, ev_ne, ev_const, put_size, hsz, e25, e26, e5])) ?_
              refine ChainL.step _ (h_pick (wanted_none rfl) (.tmp 146) (.const (.bool true)) (.tmp 154) rfl false (.bool true) (by simp (decide := true) only [ev_eq, ev_ne, ev_const, put_size, hsz, e25, e26, e5]) (by simp (decide := true) only [ev_eq, ev_ne, ev_const, put_size, hsz, Bool.false_eq_true, if_false]; rw [decide_eq_true HCn.out])) ?_
              refine ChainL.step _ (g_assign rfl (.tmp 155) rfl (.bool true) (by simp (decide := true) only [ev_eq, ev_ne, ev_const, put_size, hsz, e25, e26, e5])) ?_
              refine ChainL.done ?_
              intro w2 hS
              rw [ha0]
              simp only [Act.put, List.setIfInBounds_toArray, List.set_cons_succ, List.set_cons_zero]
              have HS2 : Hid (Below w.heap.size w w2) := HS.out.trans (hS.mono HS.out.size)
              clear hS ha0 hsz e25 e26 e5 a0
              go_wp2_with fail
              go_ret
              exact ⟨rfl, HS2.out⟩
end Go.Proofs.Qxb6616476a
