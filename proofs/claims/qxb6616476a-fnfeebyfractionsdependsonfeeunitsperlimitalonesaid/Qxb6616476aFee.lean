import Derived.Test.Qxb6616476aFeeC
namespace Go.Proofs.Qxb6616476a
open Go.RowKit Go.Lib
set_option linter.unusedSimpArgs false
theorem index25 (AA : Array Value) (k : Nat) (hk : k < 5) (x : Int) (h : AA[k]? = some (.int .u64 x)) (w : World) : (Instr.index 25 (.agg AA) (.int .i64 (k : Int))).run Try.prog w = .ok (.int .u64 x) w := by
  have h1 : (0 : Int) ≤ k := by omega
  simp [Instr.index, run_underlying Try.underlying25, asIntOf, go_sem, h1]
  rw [if_pos hk, h]
  rfl
theorem hQ_of {Q : Exit → Act → World → Prop} (h : ∀ (d : Nat) v c a w, Q (.panic c) (a.put (some d) v) w → Q (.panic c) a w) : ∀ d v c a w, Q (.panic c) (Act.put a d v) w → Q (.panic c) a w := fun d v c a w h' => by
  cases d with
  | none => exact h'
  | some d => exact h d v c a w h'
theorem rate_big {c d : Int} (hc : Word c) (hd : Word d) : Big (V2 c d) := by
  obtain ⟨h1, h2⟩ := hc; obtain ⟨h3, h4⟩ := hd
  unfold V2
  exact ⟨by omega, by omega⟩
theorem x1_big {rh rl A mu : Nat → Int} {k : Nat} (hr : ∀ i, Word (rh i) ∧ Word (rl i)) (hA : Word (A k * mu k)) : 0 ≤ x1 rh rl A mu k ∧ x1 rh rl A mu k < 6277101735386680763835789423207666416102355444464034512896 := by
  unfold x1 rr
  obtain ⟨h1, h2⟩ := (hr (min k 3)).1; obtain ⟨h3, h4⟩ := (hr (min k 3)).2
  exact prod3_lt ⟨by unfold V2; omega, by unfold V2; omega⟩ hA
attribute [local irreducible] U2 U3 gv U4 U6 x1 y2 y3 f1 f2 rr

set_option maxRecDepth 100000 in
set_option maxHeartbeats 4000000 in
theorem feeBy (bc br : Nat) (rh rl A mu dv : Nat → Int) (P F : Int) (folded : Bool) (hr : ∀ i, Word (rh i) ∧ Word (rl i)) (hA : ∀ i, i < 5 → Word (A i) ∧ Word (A i * mu i)) (hd : ∀ i, i < 5 → Word (dv i) ∧ 0 < dv i) (hP : 0 ≤ P ∧ P < 340282366920938463463374607431768211456) (hF : Word F) (hF1 : 0 < F) (w : World)
    (hc : (∀ k, k < 5 → w.cell? ⟨bc, 18 + k * 2, none⟩ = some (.int .u64 (mu k)) ∧ w.cell? ⟨bc, 18 + k * 2 + 1, none⟩ = some (.int .u64 (dv k))) ∧ w.cell? ⟨bc, 12, none⟩ = some (.int .u64 F) ∧ w.cell? ⟨bc, 28, none⟩ = some (.bool folded)) (hbr : w.rangeAt br 0 [.int .u64 (rh 0), .int .u64 (rl 0), .int .u64 (rh 1), .int .u64 (rl 1), .int .u64 (rh 2), .int .u64 (rl 2), .int .u64 (rh 3), .int .u64 (rl 3)]) (hbc : bc < w.heap.size ∧ br < w.heap.size) :
    Calls Try.prog 17 #[.pointer (some ⟨bc, 0, none⟩), .agg (U2 P), .pointer (some ⟨br, 0, none⟩), .agg #[.int .u64 (A 0), .int .u64 (A 1), .int .u64 (A 2), .int .u64 (A 3), .int .u64 (A 4)]] w fun e w' => (∃ fee ok, e = .returned (.tuple #[.int .u64 fee, .bool ok]) ∧ Word fee ∧ Right (nn rh rl A mu P F folded) dv fee ok) ∧ Below w.heap.size w w' := by
  have HW : Hid ((∀ i, Word (rh i) ∧ Word (rl i)) ∧ (∀ i, i < 5 → Word (A i) ∧ Word (A i * mu i)) ∧ (∀ i, i < 5 → Word (dv i) ∧ 0 < dv i) ∧ (0 ≤ P ∧ P < 340282366920938463463374607431768211456) ∧ Word F) := ⟨hr, hA, hd, hP, hF⟩
  have HF1 : Hid (0 < F) := hF1
  have HB0 : Hid ((∀ k, k < 5 → ((w.alloc (.cells (U2 P) 60)).alloc (.cells #[.int .u64 (A 0), .int .u64 (A 1), .int .u64 (A 2), .int .u64 (A 3), .int .u64 (A 4)] 25)).cell? ⟨bc, 18 + k * 2, none⟩ = some (.int .u64 (mu k)) ∧ ((w.alloc (.cells (U2 P) 60)).alloc (.cells #[.int .u64 (A 0), .int .u64 (A 1), .int .u64 (A 2), .int .u64 (A 3), .int .u64 (A 4)] 25)).cell? ⟨bc, 18 + k * 2 + 1, none⟩ = some (.int .u64 (dv k))) ∧ ((w.alloc (.cells (U2 P) 60)).alloc (.cells #[.int .u64 (A 0), .int .u64 (A 1), .int .u64 (A 2), .int .u64 (A 3), .int .u64 (A 4)] 25)).cell? ⟨bc, 12, none⟩ = some (.int .u64 F) ∧ ((w.alloc (.cells (U2 P) 60)).alloc (.cells #[.int .u64 (A 0), .int .u64 (A 1), .int .u64 (A 2), .int .u64 (A 3), .int .u64 (A 4)] 25)).cell? ⟨bc, 28, none⟩ = some (.bool folded) ∧ ((w.alloc (.cells (U2 P) 60)).alloc (.cells #[.int .u64 (A 0), .int .u64 (A 1), .int .u64 (A 2), .int .u64 (A 3), .int .u64 (A 4)] 25)).rangeAt br 0 [.int .u64 (rh 0), .int .u64 (rl 0), .int .u64 (rh 1), .int .u64 (rl 1), .int .u64 (rh 2), .int .u64 (rl 2), .int .u64 (rh 3), .int .u64 (rl 3)] ∧ ((w.alloc (.cells (U2 P) 60)).alloc (.cells #[.int .u64 (A 0), .int .u64 (A 1), .int .u64 (A 2), .int .u64 (A 3), .int .u64 (A 4)] 25)).rangeAt w.heap.size 0 (U2 P).toList ∧ Blk ((w.alloc (.cells (U2 P) 60)).alloc (.cells #[.int .u64 (A 0), .int .u64 (A 1), .int .u64 (A 2), .int .u64 (A 3), .int .u64 (A 4)] 25)) (w.heap.size + 1) #[.int .u64 (A 0), .int .u64 (A 1), .int .u64 (A 2), .int .u64 (A 3), .int .u64 (A 4)] 25 ∧ Below w.heap.size w ((w.alloc (.cells (U2 P) 60)).alloc (.cells #[.int .u64 (A 0), .int .u64 (A 1), .int .u64 (A 2), .int .u64 (A 3), .int .u64 (A 4)] 25)) ∧ ((w.alloc (.cells (U2 P) 60)).alloc (.cells #[.int .u64 (A 0), .int .u64 (A 1), .int .u64 (A 2), .int .u64 (A 3), .int .u64 (A 4)] 25)).heap.size = w.heap.size + 1 + 1 ∧ bc < w.heap.size ∧ br < w.heap.size) := by
    have b1 : Below w.heap.size w ((w.alloc (.cells (U2 P) 60)).alloc (.cells #[.int .u64 (A 0), .int .u64 (A 1), .int .u64 (A 2), .int .u64 (A 3), .int .u64 (A 4)] 25)) := by go_grown
    have k1 := ((Blk.new w (U2 P) 60).alloc (.cells #[.int .u64 (A 0), .int .u64 (A 1), .int .u64 (A 2), .int .u64 (A 3), .int .u64 (A 4)] 25)).range
    have k2 := Blk.new (w.alloc (.cells (U2 P) 60)) #[.int .u64 (A 0), .int .u64 (A 1), .int .u64 (A 2), .int .u64 (A 3), .int .u64 (A 4)] 25
    simp only [World.size_alloc] at k2
    refine ⟨fun k hk => ?_, ?_, ?_, range_below hbr hbc.2 b1, k1, k2, b1, by simp only [World.size_alloc], hbc⟩
    · rw [b1.cell (p := ⟨bc, 18 + k * 2, none⟩) hbc.1, b1.cell (p := ⟨bc, 18 + k * 2 + 1, none⟩) hbc.1]
      exact hc.1 k hk
    · rw [b1.cell (p := ⟨bc, 12, none⟩) hbc.1]; exact hc.2.1
    · rw [b1.cell (p := ⟨bc, 28, none⟩) hbc.1]; exact hc.2.2
  clear hr hA hd hP hF hF1 hc hbr hbc
  have HZ : Hid ((#[.int .u64 0, .int .u64 0, .int .u64 0, .int .u64 0, .int .u64 0, .int .u64 0, .int .u64 0, .int .u64 0, .int .u64 0, .int .u64 0] : Array Value).size = 10) := rfl
  obtain ⟨AA, hAA⟩ : ∃ AA : Array Value, AA = #[.int .u64 (A 0), .int .u64 (A 1), .int .u64 (A 2), .int .u64 (A 3), .int .u64 (A 4)] := ⟨_, rfl⟩
  have HAA : Hid (AA.size = 5 ∧ (Try.prog.info? 25).map (·.size) = some AA.toList.length ∧ ∀ k, k < 5 → AA[k]? = some (.int .u64 (A k))) := by
    rw [hAA]
    refine ⟨rfl, Try.size25, fun k hk => ?_⟩
    rcases (by omega : k = 0 ∨ k = 1 ∨ k = 2 ∨ k = 3 ∨ k = 4) with rfl | rfl | rfl | rfl | rfl <;> rfl
  rw [← hAA] at HB0 ⊢
  clear hAA
  have HR8 : Hid ((Try.prog.info? 69).map (·.size) = some ([.int .u64 (rh 0), .int .u64 (rl 0), .int .u64 (rh 1), .int .u64 (rl 1), .int .u64 (rh 2), .int .u64 (rl 2), .int .u64 (rh 3), .int .u64 (rl 3)] : List Value).length) := Try.size69
  go_enter Try.func17, Try.ntmps17
  go_upto_region 1 with (fail)
  generalize ((w.alloc (.cells (U2 P) 60)).alloc (.cells AA 25)) = W0 at *
  go_wp2_with (refine wpList_load_mid rfl 69 (.tmp 34) rfl br 0 rfl [.int .u64 (rh 0), .int .u64 (rl 0), .int .u64 (rh 1), .int .u64 (rl 1), .int .u64 (rh 2), .int .u64 (rl 2), .int .u64 (rh 3), .int .u64 (rl 3)] _ HB0.out.2.2.2.1 Try.underlying69 rfl HR8.out ?_)
  refine (byDim_any (rh 0) (rl 0) (rh 1) (rl 1) (rh 2) (rl 2) (rh 3) (rl 3) _).mono ?_
  rintro e w1 ⟨rfl, hb⟩
  obtain ⟨RA, hRA⟩ : ∃ RA : Array Value, RA = #[.int .u64 (rh 0), .int .u64 (rl 0), .int .u64 (rh 1), .int .u64 (rl 1), .int .u64 (rh 2), .int .u64 (rl 2), .int .u64 (rh 3), .int .u64 (rl 3), .int .u64 (rh 3), .int .u64 (rl 3)] := ⟨_, rfl⟩
  have HRA : Hid (RA.size = 10 ∧ RA.all (·.oneCell') = true ∧ ∀ k, k < 5 → RA[k * 2]? = some (.int .u64 (rh (min k 3))) ∧ RA[k * 2 + 1]? = some (.int .u64 (rl (min k 3)))) := by
    rw [hRA]
    refine ⟨rfl, by simp [Value.oneCell'], fun k hk => ?_⟩
    rcases (by omega : k = 0 ∨ k = 1 ∨ k = 2 ∨ k = 3 ∨ k = 4) with rfl | rfl | rfl | rfl | rfl <;> exact ⟨rfl, rfl⟩
  rw [← hRA]
  have HB1 : Hid (Below W0.heap.size W0 w1) := hb
  clear hb hRA
  have HT1 : Hid ((w1.alloc (.cells #[.int .u64 0, .int .u64 0, .int .u64 0, .int .u64 0, .int .u64 0, .int .u64 0, .int .u64 0, .int .u64 0, .int .u64 0, .int .u64 0] 90)).there w1.heap.size 0 RA.size) := by
    have h := there_new w1 90 #[.int .u64 0, .int .u64 0, .int .u64 0, .int .u64 0, .int .u64 0, .int .u64 0, .int .u64 0, .int .u64 0, .int .u64 0, .int .u64 0]
    rw [HRA.out.1]
    exact h
  have HI1 : Hid ((Try.prog.info? 90).map (·.size) = some RA.size) := by rw [HRA.out.1]; exact Try.size90
  go_upto_region 2 with (refine wpList_store_mid rfl 90 (.tmp 10) (.tmp 36) rfl w1.heap.size 0 RA rfl rfl HT1.out HI1.out HRA.out.2.1 ?_)
  have H1 : Hid (Below W0.heap.size W0 ((w1.alloc (.cells #[.int .u64 0, .int .u64 0, .int .u64 0, .int .u64 0, .int .u64 0, .int .u64 0, .int .u64 0, .int .u64 0, .int .u64 0, .int .u64 0] 90)).setCells w1.heap.size 0 RA.toList) ∧ ((w1.alloc (.cells #[.int .u64 0, .int .u64 0, .int .u64 0, .int .u64 0, .int .u64 0, .int .u64 0, .int .u64 0, .int .u64 0, .int .u64 0, .int .u64 0] 90)).setCells w1.heap.size 0 RA.toList).rangeAt w1.heap.size 0 RA.toList ∧ w1.heap.size < ((w1.alloc (.cells #[.int .u64 0, .int .u64 0, .int .u64 0, .int .u64 0, .int .u64 0, .int .u64 0, .int .u64 0, .int .u64 0, .int .u64 0, .int .u64 0] 90)).setCells w1.heap.size 0 RA.toList).heap.size ∧ W0.heap.size ≤ w1.heap.size) := by
    have s1 := HB1.out.size
    refine ⟨below_setCells s1 _ _ _ (HB1.out.alloc s1 _), World.rangeAt_setCells_same _ _ _ _ (by rw [Array.length_toList]; exact HT1.out), by rw [size_setCells]; simp, s1⟩
  generalize (w1.alloc (.cells #[.int .u64 0, .int .u64 0, .int .u64 0, .int .u64 0, .int .u64 0, .int .u64 0, .int .u64 0, .int .u64 0, .int .u64 0, .int .u64 0] 90)).setCells w1.heap.size 0 RA.toList = W1 at *
  clear HT1 HI1 HZ HR8 HB1
  generalize w1.heap.size = b10 at *
  clear w1
  go_upto_region 3 with (fail)
  have H2 : Hid (LoopF w bc b10 W1.heap.size rh rl A mu dv P F folded 0 (W1.alloc (.cells #[.int .u64 0, .int .u64 0, .int .u64 0, .int .u64 0, .int .u64 0, .int .u64 0, .int .u64 0, .int .u64 0, .int .u64 0, .int .u64 0, .int .u64 0, .int .u64 0, .int .u64 0, .int .u64 0, .int .u64 0, .int .u64 0, .int .u64 0, .int .u64 0, .int .u64 0, .int .u64 0, .int .u64 0, .int .u64 0, .int .u64 0, .int .u64 0, .int .u64 0, .int .u64 0, .int .u64 0, .int .u64 0, .int .u64 0, .int .u64 0] 96)) ∧ (W1.alloc (.cells #[.int .u64 0, .int .u64 0, .int .u64 0, .int .u64 0, .int .u64 0, .int .u64 0, .int .u64 0, .int .u64 0, .int .u64 0, .int .u64 0, .int .u64 0, .int .u64 0, .int .u64 0, .int .u64 0, .int .u64 0, .int .u64 0, .int .u64 0, .int .u64 0, .int .u64 0, .int .u64 0, .int .u64 0, .int .u64 0, .int .u64 0, .int .u64 0, .int .u64 0, .int .u64 0, .int .u64 0, .int .u64 0, .int .u64 0, .int .u64 0] 96)).rangeAt (w.heap.size + 1) 0 AA.toList) := by
    obtain ⟨c1, c2, c3, c4, c5, c6, c7, c8, c9⟩ := HB0.out
    obtain ⟨d1, d2, d3, d4⟩ := H1.out
    have hb : Below W1.heap.size W1 (W1.alloc (.cells #[.int .u64 0, .int .u64 0, .int .u64 0, .int .u64 0, .int .u64 0, .int .u64 0, .int .u64 0, .int .u64 0, .int .u64 0, .int .u64 0, .int .u64 0, .int .u64 0, .int .u64 0, .int .u64 0, .int .u64 0, .int .u64 0, .int .u64 0, .int .u64 0, .int .u64 0, .int .u64 0, .int .u64 0, .int .u64 0, .int .u64 0, .int .u64 0, .int .u64 0, .int .u64 0, .int .u64 0, .int .u64 0, .int .u64 0, .int .u64 0] 96)) := (Below.refl _ _).alloc (Nat.le_refl _) _
    have b2 : Below W0.heap.size W0 (W1.alloc (.cells #[.int .u64 0, .int .u64 0, .int .u64 0, .int .u64 0, .int .u64 0, .int .u64 0, .int .u64 0, .int .u64 0, .int .u64 0, .int .u64 0, .int .u64 0, .int .u64 0, .int .u64 0, .int .u64 0, .int .u64 0, .int .u64 0, .int .u64 0, .int .u64 0, .int .u64 0, .int .u64 0, .int .u64 0, .int .u64 0, .int .u64 0, .int .u64 0, .int .u64 0, .int .u64 0, .int .u64 0, .int .u64 0, .int .u64 0, .int .u64 0] 96)) := d1.trans (hb.mono d1.size)
    have hs := d1.size
    have ht := there_new W1 96 #[.int .u64 0, .int .u64 0, .int .u64 0, .int .u64 0, .int .u64 0, .int .u64 0, .int .u64 0, .int .u64 0, .int .u64 0, .int .u64 0, .int .u64 0, .int .u64 0, .int .u64 0, .int .u64 0, .int .u64 0, .int .u64 0, .int .u64 0, .int .u64 0, .int .u64 0, .int .u64 0, .int .u64 0, .int .u64 0, .int .u64 0, .int .u64 0, .int .u64 0, .int .u64 0, .int .u64 0, .int .u64 0, .int .u64 0, .int .u64 0]
    refine ⟨⟨c7.trans (b2.mono (by omega)), ⟨fun k hk => ?_, ?_, ?_, range_below c5 (by omega) b2, fun k hk => ?_, ⟨by omega, by omega, d3⟩, by simp⟩, ht, fun i hi => by omega⟩, range_below c6.range (by omega) b2⟩
    · rw [b2.cell (p := ⟨bc, 18 + k * 2, none⟩) (by show bc < _; omega), b2.cell (p := ⟨bc, 18 + k * 2 + 1, none⟩) (by show bc < _; omega)]
      exact c1 k hk
    · rw [b2.cell (p := ⟨bc, 12, none⟩) (by show bc < _; omega)]; exact c2
    · rw [b2.cell (p := ⟨bc, 28, none⟩) (by show bc < _; omega)]; exact c3
    · have r1 := d2 (k * 2) _ (by rw [Array.getElem?_toList]; exact (HRA.out.2.2 k hk).1)
      have r2 := d2 (k * 2 + 1) _ (by rw [Array.getElem?_toList]; exact (HRA.out.2.2 k hk).2)
      rw [Nat.zero_add] at r1 r2
      rw [hb.cell (p := ⟨b10, k * 2, none⟩) d3, hb.cell (p := ⟨b10, k * 2 + 1, none⟩) d3]
      exact ⟨r1, r2⟩
  generalize W1.alloc (.cells #[.int .u64 0, .int .u64 0, .int .u64 0, .int .u64 0, .int .u64 0, .int .u64 0, .int .u64 0, .int .u64 0, .int .u64 0, .int .u64 0, .int .u64 0, .int .u64 0, .int .u64 0, .int .u64 0, .int .u64 0, .int .u64 0, .int .u64 0, .int .u64 0, .int .u64 0, .int .u64 0, .int .u64 0, .int .u64 0, .int .u64 0, .int .u64 0, .int .u64 0, .int .u64 0, .int .u64 0, .int .u64 0, .int .u64 0, .int .u64 0] 96) = W2 at *
  generalize W1.heap.size = cb at *
  clear H1 HB0 HRA W0 W1
  go_wp2_with (refine wpList_load_mid rfl 25 (.tmp 7) rfl (w.heap.size + 1) 0 rfl AA.toList _ H2.out.2 Try.underlying25 rfl HAA.out.2.1 ?_)
  try simp only [Array.toArray_toList]
  go_loopw [12, 38] (fun v12 v38 wx => ∃ k : Nat, v38 = .int .i64 k ∧ v12 = .bool (fitsTo rh rl A mu P F folded k) ∧ k ≤ 5 ∧ Hid (LoopF w bc b10 cb rh rl A mu dv P F folded k wx)) (fun _ v38 _ => 5 - (RowKit.intOf v38).toNat)
  case atStart => exact ⟨0, rfl, rfl, by omega, H2.out.1⟩
  case round =>
    clear H2
    obtain ⟨k, rfl, rfl, hk, HI⟩ := hrel
    by_cases hlt : k < 5
    · have hlt' : (k : Int) < 5 := by omega
      have h40 : (0 : Int) ≤ (k : Int) := by omega
      have hix := index25 AA k hlt (A k) (HAA.out.2.2 k hlt)
      generalize hft : fitsTo rh rl A mu P F folded k = ft at *
      have HFT : Hid (fitsTo rh rl A mu P F folded k = ft) := hft
      clear hft
      go_wp2_with fail
      clear hix
      refine region_opt93 (m := 21) 42 63 15 16 (.tmp 62) (by kernel_rfl) rfl ⟨rfl, rfl, rfl⟩ ⟨rfl, rfl, rfl⟩ ⟨rfl, rfl, rfl⟩ ⟨rfl, rfl, rfl⟩ ⟨by simp, by simp⟩ ⟨by decide, by decide⟩ (hQ_of fun _ _ _ _ _ h => h) ?_
      have HC : Hid (∀ w', Below wr.heap.size wr w' → LoopF w bc b10 cb rh rl A mu dv P F folded k w') := fun w' hw' => HI.out.mono hw'
      simp only [List.take_succ_cons, List.take_zero]
      refine ChainL.frame ?_
      intro a0 ha0
      have hsz : a0.tmps.size = 204 := by rw [ha0]; rfl
      have e13 : a0.eval (.tmp 13) = .int .i64 (k : Nat) := by rw [ha0]; rfl
      have e14 : a0.eval (.tmp 14) = .int .u64 (A k) := by rw [ha0]; rfl
      have e0 : a0.eval (.tmp 0) = .pointer (some ⟨bc, 0, none⟩) := by rw [ha0]; rfl
      have e10 : a0.eval (.tmp 10) = .pointer (some ⟨b10, 0, none⟩) := by rw [ha0]; rfl
      refine ChainL.step (.int .i64 (k : Nat)) (g_move rfl (.tmp 13) rfl _ (by simp (decide := true) only [ev_eq, ev_ne, ev_const, put_size, hsz, e13, e14, e0, e10])) ?_
      refine ChainL.step _ (g_index rfl 90 2 (.tmp 10) (.tmp 43) rfl b10 0 k (by simp (decide := true) only [ev_eq, ev_ne, ev_const, put_size, hsz, e13, e14, e0, e10]) (by simp (decide := true) only [ev_eq, ev_ne, ev_const, put_size, hsz, e13, e14, e0, e10]) (idx90 _ _ _ hlt)) ?_
      refine ChainL.step _ (g_field rfl 60 0 0 (.tmp 44) rfl b10 (0 + k * 2) (by simp (decide := true) only [ev_eq, ev_ne, ev_const, put_size, hsz, e13, e14, e0, e10]) fld60_0) ?_
      refine ChainL.step _ (g_load rfl (.tmp 45) rfl ⟨b10, 0 + k * 2 + 0, none⟩ (.int .u64 (rh (min k 3))) (by simp (decide := true) only [ev_eq, ev_ne, ev_const, put_size, hsz, e13, e14, e0, e10]) (fun w' hw' => by have h := ((HC.out w' hw').2.1.2.2.2.2.1 k hlt).1; simpa using h)) ?_
      refine ChainL.step (.int .i64 (k : Nat)) (g_move rfl (.tmp 13) rfl _ (by simp (decide := true) only [ev_eq, ev_ne, ev_const, put_size, hsz, e13, e14, e0, e10])) ?_
      refine ChainL.step _ (g_index rfl 90 2 (.tmp 10) (.tmp 47) rfl b10 0 k (by simp (decide := true) only [ev_eq, ev_ne, ev_const, put_size, hsz, e13, e14, e0, e10]) (by simp (decide := true) only [ev_eq, ev_ne, ev_const, put_size, hsz, e13, e14, e0, e10]) (idx90 _ _ _ hlt)) ?_
      refine ChainL.step _ (g_field rfl 60 1 1 (.tmp 48) rfl b10 (0 + k * 2) (by simp (decide := true) only [ev_eq, ev_ne, ev_const, put_size, hsz, e13, e14, e0, e10]) fld60_1) ?_
      refine ChainL.step _ (g_load rfl (.tmp 49) rfl ⟨b10, 0 + k * 2 + 1, none⟩ (.int .u64 (rl (min k 3))) (by simp (decide := true) only [ev_eq, ev_ne, ev_const, put_size, hsz, e13, e14, e0, e10]) (fun w' hw' => by have h := ((HC.out w' hw').2.1.2.2.2.2.1 k hlt).2; simpa using h)) ?_
      refine ChainL.step _ (g_build93 rfl (.tmp 46) (.tmp 50) rfl (rh (min k 3)) (rl (min k 3)) (HW.out.1 _).1 (HW.out.1 _).2 (by simp (decide := true) only [ev_eq, ev_ne, ev_const, put_size, hsz, e13, e14, e0, e10]) (by simp (decide := true) only [ev_eq, ev_ne, ev_const, put_size, hsz, e13, e14, e0, e10])) ?_
      refine ChainL.step (.int .u64 (A k)) (g_move rfl (.tmp 14) rfl _ (by simp (decide := true) only [ev_eq, ev_ne, ev_const, put_size, hsz, e13, e14, e0, e10])) ?_
      refine ChainL.step (.pointer (some ⟨bc, 0, none⟩)) (g_move rfl (.tmp 0) rfl _ (by simp (decide := true) only [ev_eq, ev_ne, ev_const, put_size, hsz, e13, e14, e0, e10])) ?_
      refine ChainL.step (.int .i64 (k : Nat)) (g_move rfl (.tmp 13) rfl _ (by simp (decide := true) only [ev_eq, ev_ne, ev_const, put_size, hsz, e13, e14, e0, e10])) ?_
      refine ChainL.step _ (g_nil rfl (.tmp 53) rfl ⟨bc, 0, none⟩ (by simp (decide := true) only [ev_eq, ev_ne, ev_const, put_size, hsz, e13, e14, e0, e10])) ?_
      refine ChainL.step _ (g_field rfl 64 7 18 (.tmp 55) rfl bc 0 (by simp (decide := true) only [ev_eq, ev_ne, ev_const, put_size, hsz, e13, e14, e0, e10]) fld64_7) ?_
      refine ChainL.step _ (g_index rfl 58 2 (.tmp 56) (.tmp 54) rfl bc (0 + 18) k (by simp (decide := true) only [ev_eq, ev_ne, ev_const, put_size, hsz, e13, e14, e0, e10]) (by simp (decide := true) only [ev_eq, ev_ne, ev_const, put_size, hsz, e13, e14, e0, e10]) (idx58 _ _ _ hlt)) ?_
      refine ChainL.step _ (g_field rfl 57 0 0 (.tmp 57) rfl bc (0 + 18 + k * 2) (by simp (decide := true) only [ev_eq, ev_ne, ev_const, put_size, hsz, e13, e14, e0, e10]) fld57_0) ?_
      refine ChainL.step _ (g_load rfl (.tmp 58) rfl ⟨bc, 0 + 18 + k * 2 + 0, none⟩ (.int .u64 (mu k)) (by simp (decide := true) only [ev_eq, ev_ne, ev_const, put_size, hsz, e13, e14, e0, e10]) (fun w' hw' => by have h := ((HC.out w' hw').2.1.1 k hlt).1; simpa using h)) ?_
      refine ChainL.step _ (g_mul rfl (.tmp 52) (.tmp 59) rfl (A k) (mu k) (by simp (decide := true) only [ev_eq, ev_ne, ev_const, put_size, hsz, e13, e14, e0, e10]) (by simp (decide := true) only [ev_eq, ev_ne, ev_const, put_size, hsz, e13, e14, e0, e10]) (HW.out.2.1 k hlt).2) ?_
      refine ChainL.step _ (g_call rfl 30 _ rfl rfl #[.agg (U4 (V2 (rh (min k 3)) (rl (min k 3)))), .int .u64 (A k * mu k)] (by simp (decide := true) [ev_eq, ev_ne, ev_const, put_size, hsz]) (cf30 _) _ (fun w' _ => mul4 _ _ (rate_big (HW.out.1 _).1 (HW.out.1 _).2) (HW.out.2.1 k hlt).2 w')) ?_
      refine ChainL.step (.tuple #[.agg (U4 (V2 (rh (min k 3)) (rl (min k 3)) * (A k * mu k))), .bool (decide (V2 (rh (min k 3)) (rl (min k 3)) * (A k * mu k) < 115792089237316195423570985008687907853269984665640564039457584007913129639936))]) (g_move rfl (.tmp 61) rfl _ (by simp (decide := true) only [ev_eq, ev_ne, ev_const, put_size, hsz, e13, e14, e0, e10])) ?_
      refine ChainL.step (.agg (U4 (V2 (rh (min k 3)) (rl (min k 3)) * (A k * mu k)))) (g_extract rfl (.tmp 42) 0 rfl #[.agg (U4 (V2 (rh (min k 3)) (rl (min k 3)) * (A k * mu k))), .bool (decide (V2 (rh (min k 3)) (rl (min k 3)) * (A k * mu k) < 115792089237316195423570985008687907853269984665640564039457584007913129639936))] _ (by simp (decide := true) only [ev_eq, ev_ne, ev_const, put_size, hsz, e13, e14, e0, e10]) rfl) ?_
      refine ChainL.done ⟨⟨by simp (decide := true) only [put_size, hsz], by simp (decide := true) only [put_size, hsz]⟩, #[.agg (U4 (V2 (rh (min k 3)) (rl (min k 3)) * (A k * mu k))), .bool (decide (V2 (rh (min k 3)) (rl (min k 3)) * (A k * mu k) < 115792089237316195423570985008687907853269984665640564039457584007913129639936))], .bool (decide (V2 (rh (min k 3)) (rl (min k 3)) * (A k * mu k) < 115792089237316195423570985008687907853269984665640564039457584007913129639936)), U4 (V2 (rh (min k 3)) (rl (min k 3)) * (A k * mu k)), (by simp (decide := true) only [ev_eq, ev_ne, ev_const, put_size, hsz, e13, e14, e0, e10]), rfl, U4_size _, U4_ones _, (by simp (decide := true) only [ev_eq, ev_ne, ev_const, put_size, hsz, e13, e14, e0, e10]), ?_⟩
      intro b15 w' hS hb1 hb2 hb3
      rw [ha0]
      simp only [Act.put, List.setIfInBounds_toArray, List.set_cons_succ, List.set_cons_zero]
      have hx1 : V2 (rh (min k 3)) (rl (min k 3)) * (A k * mu k) = x1 rh rl A mu k := by unfold x1 rr; rfl
      rw [hx1]
      have H3 : Hid (LoopF w bc b10 cb rh rl A mu dv P F folded k (w'.setCells b15 0 (U4 (x1 rh rl A mu k)).toList) ∧ (w'.setCells b15 0 (U4 (x1 rh rl A mu k)).toList).rangeAt b15 0 (U4 (x1 rh rl A mu k)).toList ∧ (w'.setCells b15 0 (U4 (x1 rh rl A mu k)).toList).there b15 0 4 ∧ cb < b15 ∧ b15 < (w'.setCells b15 0 (U4 (x1 rh rl A mu k)).toList).heap.size) := by
        have hcb := HI.out.2.1.2.2.2.2.2.2
        exact ⟨(HI.out.mono hS).fresh (by omega) _ _, World.rangeAt_setCells_same _ _ _ _ (by rw [Array.length_toList, U4_size]; exact hb3), World.there_setCells hb3 _ _ _, by omega, by rw [size_setCells]; exact hb2⟩
      generalize w'.setCells b15 0 (U4 (x1 rh rl A mu k)).toList = W3 at *
      generalize (decide (x1 rh rl A mu k < 115792089237316195423570985008687907853269984665640564039457584007913129639936)) = ig at *
      clear hS hb1 hb2 hb3 HC ha0 hsz e13 e14 e0 e10 w' a0 HI hx1
      go_wp2_with (first
        | (refine wpList_load_mid rfl 93 (.tmp 15) rfl b15 0 rfl (U4 (x1 rh rl A mu k)).toList _ H3.out.2.1 Try.underlying93 rfl (U4_info' _) ?_)
        | (refine wpList_load_mid rfl 60 (.tmp 5) rfl w.heap.size 0 rfl (U2 P).toList _ H3.out.1.2.1.2.2.2.1 Try.underlying60 rfl (U2_info' _) ?_))
      try simp only [Array.toArray_toList]
      refine (mul42 (x1 rh rl A mu k) P (by have h := x1_big HW.out.1 (HW.out.2.1 k hlt).2; exact ⟨h.1, by have := h.2; omega⟩) HW.out.2.2.2.1 _).mono ?_
      rintro e w4 ⟨rfl, hb⟩
      have hy2 : U4 (x1 rh rl A mu k * P) = U4 (y2 rh rl A mu P k) := by rw [U4_emod]; unfold y2; rfl
      have hf1 : decide (x1 rh rl A mu k * P < 115792089237316195423570985008687907853269984665640564039457584007913129639936) = f1 rh rl A mu P k := by unfold f1; rfl
      rw [hy2, hf1]
      have H4 : Hid (LoopF w bc b10 cb rh rl A mu dv P F folded k w4 ∧ w4.there b15 0 4 ∧ cb < b15 ∧ b15 < w4.heap.size) := ⟨H3.out.1.mono hb, there_below H3.out.2.2.1 H3.out.2.2.2.2 hb, H3.out.2.2.2.1, by have := hb.size; have := H3.out.2.2.2.2; omega⟩
      clear hb hy2 hf1 H3
      go_upto_region 9 with (refine wpList_store_mid rfl 93 (.tmp 15) (.tmp 68) rfl b15 0 (U4 (y2 rh rl A mu P k)) rfl rfl (by rw [U4_size]; exact H4.out.2.1) (U4_info _) (U4_ones _) ?_)
      have H5 : Hid (LoopF w bc b10 cb rh rl A mu dv P F folded k (w4.setCells b15 0 (U4 (y2 rh rl A mu P k)).toList) ∧ (w4.setCells b15 0 (U4 (y2 rh rl A mu P k)).toList).rangeAt b15 0 (U4 (y2 rh rl A mu P k)).toList ∧ (w4.setCells b15 0 (U4 (y2 rh rl A mu P k)).toList).there b15 0 4 ∧ cb < b15 ∧ b15 < (w4.setCells b15 0 (U4 (y2 rh rl A mu P k)).toList).heap.size) := ⟨H4.out.1.fresh H4.out.2.2.1 _ _, World.rangeAt_setCells_same _ _ _ _ (by rw [Array.length_toList, U4_size]; exact H4.out.2.1), World.there_setCells H4.out.2.1 _ _ _, H4.out.2.2.1, by rw [size_setCells]; exact H4.out.2.2.2⟩
      generalize w4.setCells b15 0 (U4 (y2 rh rl A mu P k)).toList = W5 at *
      clear H4 W3
      have cF := H5.out.1.2.1.2.2.1
      cases folded with
      | false =>
        go_wp2_with fail
        refine region_opt93_0 (m := 8) 75 83 15 18 (.tmp 82) (by kernel_rfl) rfl ⟨rfl, rfl, rfl⟩ ⟨rfl, rfl, rfl⟩ ⟨rfl, rfl, rfl⟩ (by simp) (by decide) (hQ_of fun _ _ _ _ _ h => h) ?_
        have HC : Hid (∀ w', Below W5.heap.size W5 w' → LoopF w bc b10 cb rh rl A mu dv P F false k w') := fun w' hw' => H5.out.1.mono hw'
        clear cF
        simp only [List.take_succ_cons, List.take_zero]
        refine ChainL.frame ?_
        intro a0 ha0
        have hsz : a0.tmps.size = 204 := by rw [ha0]; rfl
        have e0 : a0.eval (.tmp 0) = .pointer (some ⟨bc, 0, none⟩) := by rw [ha0]; rfl
        have e15 : a0.eval (.tmp 15) = .pointer (some ⟨b15, 0, none⟩) := by rw [ha0]; rfl
        refine ChainL.step _ (g_loadT rfl 93 _ Try.underlying93 rfl (.tmp 15) rfl b15 0 (U4 (y2 rh rl A mu P k)) (U4_info _) (by simp (decide := true) only [ev_eq, ev_ne, ev_const, put_size, hsz, e0, e15]) (fun w' hw' => range_below H5.out.2.1 H5.out.2.2.2.2 hw')) ?_
        refine ChainL.step (.pointer (some ⟨bc, 0, none⟩)) (g_move rfl (.tmp 0) rfl _ (by simp (decide := true) only [ev_eq, ev_ne, ev_const, put_size, hsz, e0, e15])) ?_
        refine ChainL.step _ (g_nil rfl (.tmp 77) rfl ⟨bc, 0, none⟩ (by simp (decide := true) only [ev_eq, ev_ne, ev_const, put_size, hsz, e0, e15])) ?_
        refine ChainL.step _ (g_field rfl 64 5 12 (.tmp 78) rfl bc 0 (by simp (decide := true) only [ev_eq, ev_ne, ev_const, put_size, hsz, e0, e15]) fld64_5) ?_
        refine ChainL.step _ (g_load rfl (.tmp 79) rfl ⟨bc, 0 + 12, none⟩ (.int .u64 F) (by simp (decide := true) only [ev_eq, ev_ne, ev_const, put_size, hsz, e0, e15]) (fun w' hw' => (HC.out w' hw').2.1.2.1)) ?_
        refine ChainL.step _ (g_call rfl 30 _ rfl rfl #[.agg (U4 (y2 rh rl A mu P k)), .int .u64 F] (by simp (decide := true) [ev_eq, ev_ne, ev_const, put_size, hsz]) (cf30 _) _ (fun w' _ => mul4 _ _ (y2_big _ _ _ _ _ _) HW.out.2.2.2.2 w')) ?_
        refine ChainL.step (.tuple #[.agg (U4 (y2 rh rl A mu P k * F)), .bool (decide (y2 rh rl A mu P k * F < 115792089237316195423570985008687907853269984665640564039457584007913129639936))]) (g_move rfl (.tmp 81) rfl _ (by simp (decide := true) only [ev_eq, ev_ne, ev_const, put_size, hsz, e0, e15])) ?_
        refine ChainL.step (.agg (U4 (y2 rh rl A mu P k * F))) (g_extract rfl (.tmp 75) 0 rfl #[.agg (U4 (y2 rh rl A mu P k * F)), .bool (decide (y2 rh rl A mu P k * F < 115792089237316195423570985008687907853269984665640564039457584007913129639936))] _ (by simp (decide := true) only [ev_eq, ev_ne, ev_const, put_size, hsz, e0, e15]) rfl) ?_
        refine ChainL.done ⟨by simp (decide := true) only [put_size, hsz], #[.agg (U4 (y2 rh rl A mu P k * F)), .bool (decide (y2 rh rl A mu P k * F < 115792089237316195423570985008687907853269984665640564039457584007913129639936))], .bool (decide (y2 rh rl A mu P k * F < 115792089237316195423570985008687907853269984665640564039457584007913129639936)), U4 (y2 rh rl A mu P k * F), b15, (by simp (decide := true) only [ev_eq, ev_ne, ev_const, put_size, hsz, e0, e15]), rfl, U4_size _, U4_ones _, (by simp (decide := true) only [ev_eq, ev_ne, ev_const, put_size, hsz, e0, e15]), (by simp (decide := true) only [ev_eq, ev_ne, ev_const, put_size, hsz, e0, e15]), fun w' hw' => there_below H5.out.2.2.1 H5.out.2.2.2.2 hw', ?_⟩
        intro w' hS
        rw [ha0]
        simp only [Act.put, List.setIfInBounds_toArray, List.set_cons_succ, List.set_cons_zero]
        have hy3 : U4 (y2 rh rl A mu P k * F) = U4 (y3 rh rl A mu P F false k) := by rw [U4_emod]; unfold y3; rfl
        have hf2 : decide (y2 rh rl A mu P k * F < 115792089237316195423570985008687907853269984665640564039457584007913129639936) = f2 rh rl A mu P F false k := by unfold f2; rfl
        rw [hy3, hf2]
        have H6 : Hid (LoopF w bc b10 cb rh rl A mu dv P F false k (w'.setCells b15 0 (U4 (y3 rh rl A mu P F false k)).toList) ∧ (w'.setCells b15 0 (U4 (y3 rh rl A mu P F false k)).toList).rangeAt b15 0 (U4 (y3 rh rl A mu P F false k)).toList ∧ cb < b15 ∧ b15 < (w'.setCells b15 0 (U4 (y3 rh rl A mu P F false k)).toList).heap.size) := ⟨(H5.out.1.mono hS).fresh H5.out.2.2.2.1 _ _, World.rangeAt_setCells_same _ _ _ _ (by rw [Array.length_toList, U4_size]; exact there_below H5.out.2.2.1 H5.out.2.2.2.2 hS), H5.out.2.2.2.1, by rw [size_setCells]; have := hS.size; have := H5.out.2.2.2.2; omega⟩
        generalize w'.setCells b15 0 (U4 (y3 rh rl A mu P F false k)).toList = W6 at *
        clear hS HC ha0 hsz e0 e15 w' a0 H5 hy3 hf2 W5
        go_wp2_with fail
        refine region_opt93 (m := 11) 84 95 19 20 (.tmp 94) (by kernel_rfl) rfl ⟨rfl, rfl, rfl⟩ ⟨rfl, rfl, rfl⟩ ⟨rfl, rfl, rfl⟩ ⟨rfl, rfl, rfl⟩ ⟨by simp, by simp⟩ ⟨by decide, by decide⟩ (hQ_of fun _ _ _ _ _ h => h) ?_
        have HC : Hid (∀ w', Below W6.heap.size W6 w' → LoopF w bc b10 cb rh rl A mu dv P F false k w') := fun w' hw' => H6.out.1.mono hw'
        simp only [List.take_succ_cons, List.take_zero]
        refine ChainL.frame ?_
        intro a0 ha0
        have hsz : a0.tmps.size = 204 := by rw [ha0]; rfl
        have e13 : a0.eval (.tmp 13) = .int .i64 (k : Nat) := by rw [ha0]; rfl
        have e0 : a0.eval (.tmp 0) = .pointer (some ⟨bc, 0, none⟩) := by rw [ha0]; rfl
        have e15 : a0.eval (.tmp 15) = .pointer (some ⟨b15, 0, none⟩) := by rw [ha0]; rfl
        refine ChainL.step _ (g_loadT rfl 93 _ Try.underlying93 rfl (.tmp 15) rfl b15 0 (U4 (y3 rh rl A mu P F false k)) (U4_info _) (by simp (decide := true) only [ev_eq, ev_ne, ev_const, put_size, hsz, e13, e0, e15]) (fun w' hw' => range_below H6.out.2.1 H6.out.2.2.2 hw')) ?_
        refine ChainL.step (.pointer (some ⟨bc, 0, none⟩)) (g_move rfl (.tmp 0) rfl _ (by simp (decide := true) only [ev_eq, ev_ne, ev_const, put_size, hsz, e13, e0, e15])) ?_
        refine ChainL.step (.int .i64 (k : Nat)) (g_move rfl (.tmp 13) rfl _ (by simp (decide := true) only [ev_eq, ev_ne, ev_const, put_size, hsz, e13, e0, e15])) ?_
        refine ChainL.step _ (g_nil rfl (.tmp 86) rfl ⟨bc, 0, none⟩ (by simp (decide := true) only [ev_eq, ev_ne, ev_const, put_size, hsz, e13, e0, e15])) ?_
        refine ChainL.step _ (g_field rfl 64 7 18 (.tmp 88) rfl bc 0 (by simp (decide := true) only [ev_eq, ev_ne, ev_const, put_size, hsz, e13, e0, e15]) fld64_7) ?_
        refine ChainL.step _ (g_index rfl 58 2 (.tmp 89) (.tmp 87) rfl bc (0 + 18) k (by simp (decide := true) only [ev_eq, ev_ne, ev_const, put_size, hsz, e13, e0, e15]) (by simp (decide := true) only [ev_eq, ev_ne, ev_const, put_size, hsz, e13, e0, e15]) (idx58 _ _ _ hlt)) ?_
        refine ChainL.step _ (g_field rfl 57 1 1 (.tmp 90) rfl bc (0 + 18 + k * 2) (by simp (decide := true) only [ev_eq, ev_ne, ev_const, put_size, hsz, e13, e0, e15]) fld57_1) ?_
        refine ChainL.step _ (g_load rfl (.tmp 91) rfl ⟨bc, 0 + 18 + k * 2 + 1, none⟩ (.int .u64 (dv k)) (by simp (decide := true) only [ev_eq, ev_ne, ev_const, put_size, hsz, e13, e0, e15]) (fun w' hw' => by have h := ((HC.out w' hw').2.1.1 k hlt).2; simpa using h)) ?_
        refine ChainL.step _ (g_call rfl 32 _ rfl rfl #[.agg (U4 (y3 rh rl A mu P F false k)), .int .u64 (dv k)] (by simp (decide := true) [ev_eq, ev_ne, ev_const, put_size, hsz]) (cf32 _) _ (fun w' _ => quo4 _ _ (y3_big _ _ _ _ _ _ _ _) (HW.out.2.2.1 k hlt).1 (HW.out.2.2.1 k hlt).2 w')) ?_
        refine ChainL.step (.tuple #[.agg (U4 (y3 rh rl A mu P F false k / dv k)), .int .u64 (y3 rh rl A mu P F false k % dv k)]) (g_move rfl (.tmp 93) rfl _ (by simp (decide := true) only [ev_eq, ev_ne, ev_const, put_size, hsz, e13, e0, e15])) ?_
        refine ChainL.step (.agg (U4 (y3 rh rl A mu P F false k / dv k))) (g_extract rfl (.tmp 84) 0 rfl #[.agg (U4 (y3 rh rl A mu P F false k / dv k)), .int .u64 (y3 rh rl A mu P F false k % dv k)] _ (by simp (decide := true) only [ev_eq, ev_ne, ev_const, put_size, hsz, e13, e0, e15]) rfl) ?_
        refine ChainL.done ⟨⟨by simp (decide := true) only [put_size, hsz], by simp (decide := true) only [put_size, hsz]⟩, #[.agg (U4 (y3 rh rl A mu P F false k / dv k)), .int .u64 (y3 rh rl A mu P F false k % dv k)], .int .u64 (y3 rh rl A mu P F false k % dv k), U4 (y3 rh rl A mu P F false k / dv k), (by simp (decide := true) only [ev_eq, ev_ne, ev_const, put_size, hsz, e13, e0, e15]), rfl, U4_size _, U4_ones _, (by simp (decide := true) only [ev_eq, ev_ne, ev_const, put_size, hsz, e13, e0, e15]), ?_⟩
        intro b19 w' hS hb1 hb2 hb3
        rw [ha0]
        simp only [Act.put, List.setIfInBounds_toArray, List.set_cons_succ, List.set_cons_zero]
        have H7 : Hid (LoopF w bc b10 cb rh rl A mu dv P F false k (w'.setCells b19 0 (U4 (y3 rh rl A mu P F false k / dv k)).toList) ∧ (w'.setCells b19 0 (U4 (y3 rh rl A mu P F false k / dv k)).toList).rangeAt b19 0 (U4 (y3 rh rl A mu P F false k / dv k)).toList ∧ cb < b19 ∧ b19 < (w'.setCells b19 0 (U4 (y3 rh rl A mu P F false k / dv k)).toList).heap.size) := by
          have hcb := H6.out.1.2.1.2.2.2.2.2.2
          exact ⟨(H6.out.1.mono hS).fresh (by omega) _ _, World.rangeAt_setCells_same _ _ _ _ (by rw [Array.length_toList, U4_size]; exact hb3), by omega, by rw [size_setCells]; exact hb2⟩
        generalize w'.setCells b19 0 (U4 (y3 rh rl A mu P F false k / dv k)).toList = W7 at *
        clear hS hb1 hb2 hb3 HC ha0 hsz e13 e0 e15 w' a0 H6 W6
        go_wp2_with fail
        refine region_y (m := 19) (S := fun w' => w'.rangeAt b19 0 (U4 (y3 rh rl A mu P F false k / dv k)).toList ∧ w'.cell? ⟨bc, 18 + k * 2 + 1, none⟩ = some (.int .u64 (dv k))) 95 (.tmp 114) (.tmp 106) (.tmp 113) (by kernel_rfl) rfl ⟨rfl, rfl, rfl⟩ ⟨rfl, rfl⟩ (hQ_of fun _ _ _ _ _ h => h) ⟨H7.out.2.1, (H7.out.1.2.1.1 k hlt).2⟩ ?_
        simp only [List.take_succ_cons, List.take_zero]
        refine ChainY.frame ?_
        intro a0 ha0
        have hsz : a0.tmps.size = 204 := by rw [ha0]; rfl
        have e13 : a0.eval (.tmp 13) = .int .i64 (k : Nat) := by rw [ha0]; rfl
        have e0 : a0.eval (.tmp 0) = .pointer (some ⟨bc, 0, none⟩) := by rw [ha0]; rfl
        have e19 : a0.eval (.tmp 19) = .pointer (some ⟨b19, 0, none⟩) := by rw [ha0]; rfl
        have e20 : a0.eval (.tmp 20) = .int .u64 (y3 rh rl A mu P F false k % dv k) := by rw [ha0]; rfl
        have e12 : a0.eval (.tmp 12) = .bool ft := by rw [ha0]; rfl
        have e17 : a0.eval (.tmp 17) = .bool (f1 rh rl A mu P k) := by rw [ha0]; rfl
        have e18 : a0.eval (.tmp 18) = .bool (f2 rh rl A mu P F false k) := by rw [ha0]; rfl
        have e11 : a0.eval (.tmp 11) = .pointer (some ⟨cb, 0, none⟩) := by rw [ha0]; rfl
        refine ChainY.step (.int .i64 (k : Nat)) (y_move rfl (.tmp 13) rfl _ (by simp (decide := true) only [ev_eq, ev_ne, ev_const, put_size, hsz, e13, e0, e19, e20, e12, e17, e18, e11])) ?_
        refine ChainY.step _ (y_loadT rfl 93 _ Try.underlying93 rfl (.tmp 19) rfl b19 0 (U4 (y3 rh rl A mu P F false k / dv k)) (U4_info _) (by simp (decide := true) only [ev_eq, ev_ne, ev_const, put_size, hsz, e13, e0, e19, e20, e12, e17, e18, e11]) (fun w' hw' => hw'.1)) ?_
        refine ChainY.step (.int .u64 (y3 rh rl A mu P F false k % dv k)) (y_move rfl (.tmp 20) rfl _ (by simp (decide := true) only [ev_eq, ev_ne, ev_const, put_size, hsz, e13, e0, e19, e20, e12, e17, e18, e11])) ?_
        refine ChainY.step (.pointer (some ⟨bc, 0, none⟩)) (y_move rfl (.tmp 0) rfl _ (by simp (decide := true) only [ev_eq, ev_ne, ev_const, put_size, hsz, e13, e0, e19, e20, e12, e17, e18, e11])) ?_
        refine ChainY.step (.int .i64 (k : Nat)) (y_move rfl (.tmp 13) rfl _ (by simp (decide := true) only [ev_eq, ev_ne, ev_const, put_size, hsz, e13, e0, e19, e20, e12, e17, e18, e11])) ?_
        refine ChainY.step _ (y_nil rfl (.tmp 99) rfl ⟨bc, 0, none⟩ (by simp (decide := true) only [ev_eq, ev_ne, ev_const, put_size, hsz, e13, e0, e19, e20, e12, e17, e18, e11])) ?_
        refine ChainY.step _ (y_field rfl 64 7 18 (.tmp 101) rfl bc 0 (by simp (decide := true) only [ev_eq, ev_ne, ev_const, put_size, hsz, e13, e0, e19, e20, e12, e17, e18, e11]) fld64_7) ?_
        refine ChainY.step _ (y_index rfl 58 2 (.tmp 102) (.tmp 100) rfl bc (0 + 18) k (by simp (decide := true) only [ev_eq, ev_ne, ev_const, put_size, hsz, e13, e0, e19, e20, e12, e17, e18, e11]) (by simp (decide := true) only [ev_eq, ev_ne, ev_const, put_size, hsz, e13, e0, e19, e20, e12, e17, e18, e11]) (idx58 _ _ _ hlt)) ?_
        refine ChainY.step _ (y_field rfl 57 1 1 (.tmp 103) rfl bc (0 + 18 + k * 2) (by simp (decide := true) only [ev_eq, ev_ne, ev_const, put_size, hsz, e13, e0, e19, e20, e12, e17, e18, e11]) fld57_1) ?_
        refine ChainY.step _ (y_load rfl (.tmp 104) rfl ⟨bc, 0 + 18 + k * 2 + 1, none⟩ (.int .u64 (dv k)) (by simp (decide := true) only [ev_eq, ev_ne, ev_const, put_size, hsz, e13, e0, e19, e20, e12, e17, e18, e11]) (fun w' hw' => by have h := hw'.2; simpa using h)) ?_
        refine ChainY.step _ (y_build95 rfl (.tmp 97) (.tmp 98) (.tmp 105) rfl (y3 rh rl A mu P F false k / dv k) (y3 rh rl A mu P F false k % dv k) (dv k) (by simp (decide := true) only [ev_eq, ev_ne, ev_const, put_size, hsz, e13, e0, e19, e20, e12, e17, e18, e11]) (by simp (decide := true) only [ev_eq, ev_ne, ev_const, put_size, hsz, e13, e0, e19, e20, e12, e17, e18, e11]) (by simp (decide := true) only [ev_eq, ev_ne, ev_const, put_size, hsz, e13, e0, e19, e20, e12, e17, e18, e11])) ?_
        refine ChainY.step (.bool ft) (y_move rfl (.tmp 12) rfl _ (by simp (decide := true) only [ev_eq, ev_ne, ev_const, put_size, hsz, e13, e0, e19, e20, e12, e17, e18, e11])) ?_
        refine ChainY.step (.bool ft) (y_move rfl (.tmp 107) rfl _ (by simp (decide := true) only [ev_eq, ev_ne, ev_const, put_size, hsz, e13, e0, e19, e20, e12, e17, e18, e11])) ?_
        refine ChainY.step _ (z_gmove (g := 12) (b0 := ft) rfl rfl rfl (by simp (decide := true) only [put_size, hsz]) (by simp (decide := true) only [ev_eq, ev_ne, ev_const, put_size, hsz, e13, e0, e19, e20, e12, e17, e18, e11]) (.tmp 17) rfl (.bool (f1 rh rl A mu P k)) (by simp (decide := true) only [ev_eq, ev_ne, ev_const, put_size, hsz, e13, e0, e19, e20, e12, e17, e18, e11])) ?_
        refine ChainY.step _ (z_pickand rfl (.tmp 108) (.tmp 109) rfl ft (f1 rh rl A mu P k) (by simp (decide := true) only [ev_eq, ev_ne, ev_const, put_size, hsz, e13, e0, e19, e20, e12, e17, e18, e11]) (by simp (decide := true) only [ev_eq, ev_ne, ev_const, put_size, hsz, e13, e0, e19, e20, e12, e17, e18, e11])) ?_
        refine ChainY.step (.bool (ft && f1 rh rl A mu P k)) (y_move rfl (.tmp 110) rfl _ (by simp (decide := true) only [ev_eq, ev_ne, ev_const, put_size, hsz, e13, e0, e19, e20, e12, e17, e18, e11])) ?_
        refine ChainY.step _ (z_gmove (g := 15) (b0 := ft && f1 rh rl A mu P k) rfl rfl rfl (by simp (decide := true) only [put_size, hsz]) (by simp (decide := true) only [ev_eq, ev_ne, ev_const, put_size, hsz, e13, e0, e19, e20, e12, e17, e18, e11]) (.tmp 18) rfl (.bool (f2 rh rl A mu P F false k)) (by simp (decide := true) only [ev_eq, ev_ne, ev_const, put_size, hsz, e13, e0, e19, e20, e12, e17, e18, e11])) ?_
        refine ChainY.step _ (z_pickand rfl (.tmp 111) (.tmp 112) rfl (ft && f1 rh rl A mu P k) (f2 rh rl A mu P F false k) (by simp (decide := true) only [ev_eq, ev_ne, ev_const, put_size, hsz, e13, e0, e19, e20, e12, e17, e18, e11]) (by simp (decide := true) only [ev_eq, ev_ne, ev_const, put_size, hsz, e13, e0, e19, e20, e12, e17, e18, e11])) ?_
        refine ChainY.step _ (y_index rfl 96 6 (.tmp 11) (.tmp 96) rfl cb 0 k (by simp (decide := true) only [ev_eq, ev_ne, ev_const, put_size, hsz, e13, e0, e19, e20, e12, e17, e18, e11]) (by simp (decide := true) only [ev_eq, ev_ne, ev_const, put_size, hsz, e13, e0, e19, e20, e12, e17, e18, e11]) (idx96 _ _ _ hlt)) ?_
        refine ChainY.done ⟨cb, 0 + k * 6, U6 (y3 rh rl A mu P F false k / dv k) (y3 rh rl A mu P F false k % dv k) (dv k), .bool ((ft && f1 rh rl A mu P k) && f2 rh rl A mu P F false k), (by simp (decide := true) only [ev_eq, ev_ne, ev_const, put_size, hsz, e13, e0, e19, e20, e12, e17, e18, e11]), (by simp (decide := true) only [ev_eq, ev_ne, ev_const, put_size, hsz, e13, e0, e19, e20, e12, e17, e18, e11]), U6_info _ _ _, U6_ones _ _ _, (by simp (decide := true) only [ev_eq, ev_ne, ev_const, put_size, hsz, e13, e0, e19, e20, e12, e17, e18, e11]), ?_, ?_, ?_⟩
        · rw [Nat.zero_add, U6_size]; exact there_sub6 H7.out.1.2.2.1 hlt
        · exact ⟨World.rangeAt_setCells_apart (w := W7.drewN 1) H7.out.2.1 _ _ _ (Or.inl (by have := H7.out.2.2.1; omega)), by rw [World.cell?_setCells_out _ _ _ _ _ (fun h _ => by have := H7.out.1.2.1.2.2.2.2.2.1.1; simp at h; omega)]; exact (H7.out.1.2.1.1 k hlt).2⟩
        rw [ha0]
        simp only [Act.put, List.setIfInBounds_toArray, List.set_cons_succ, List.set_cons_zero]
        have H8 : Hid (LoopF w bc b10 cb rh rl A mu dv P F false (k + 1) ((W7.drewN 1).setCells cb (0 + k * 6) (U6 (y3 rh rl A mu P F false k / dv k) (y3 rh rl A mu P F false k % dv k) (dv k)).toList)) := by
          rw [Nat.zero_add]
          have h9 : LoopF w bc b10 cb rh rl A mu dv P F false k (W7.drewN 1) := H7.out.1.mono ⟨rfl, rfl, rfl, Nat.le_refl _, fun _ _ => rfl⟩
          exact h9.putC hlt
        have HFn : Hid (fitsTo rh rl A mu P F false (k + 1) = ((ft && f1 rh rl A mu P k) && f2 rh rl A mu P F false k)) := by
          show ((_ && _) && _) = _
          rw [HFT.out]
        generalize (W7.drewN 1).setCells cb (0 + k * 6) (U6 (y3 rh rl A mu P F false k / dv k) (y3 rh rl A mu P F false k % dv k) (dv k)).toList = W8 at *
        clear ha0 hsz e13 e0 e19 e20 e12 e17 e18 e11 a0 H7
        go_wp2_with fail
        go_roundw
        case rel => exact ⟨k + 1, rfl, by rw [HFn.out], by omega, H8.out⟩
        case measure => simp [RowKit.intOf]; omega
      | true =>
        go_wp2_with fail
        have H6 : Hid (LoopF w bc b10 cb rh rl A mu dv P F true k W5 ∧ W5.rangeAt b15 0 (U4 (y3 rh rl A mu P F true k)).toList ∧ cb < b15 ∧ b15 < W5.heap.size) := ⟨H5.out.1, by unfold y3; exact H5.out.2.1, H5.out.2.2.2.1, H5.out.2.2.2.2⟩
        clear H5 cF
        generalize W5 = W6 at *
        refine region_opt93 (m := 11) 84 95 19 20 (.tmp 94) (by kernel_rfl) rfl ⟨rfl, rfl, rfl⟩ ⟨rfl, rfl, rfl⟩ ⟨rfl, rfl, rfl⟩ ⟨rfl, rfl, rfl⟩ ⟨by simp, by simp⟩ ⟨by decide, by decide⟩ (hQ_of fun _ _ _ _ _ h => h) ?_
        have HC : Hid (∀ w', Below W6.heap.size W6 w' → LoopF w bc b10 cb rh rl A mu dv P F true k w') := fun w' hw' => H6.out.1.mono hw'
        simp only [List.take_succ_cons, List.take_zero]
        refine ChainL.frame ?_
        intro a0 ha0
        have hsz : a0.tmps.size = 204 := by rw [ha0]; rfl
        have e13 : a0.eval (.tmp 13) = .int .i64 (k : Nat) := by rw [ha0]; rfl
        have e0 : a0.eval (.tmp 0) = .pointer (some ⟨bc, 0, none⟩) := by rw [ha0]; rfl
        have e15 : a0.eval (.tmp 15) = .pointer (some ⟨b15, 0, none⟩) := by rw [ha0]; rfl
        refine ChainL.step _ (g_loadT rfl 93 _ Try.underlying93 rfl (.tmp 15) rfl b15 0 (U4 (y3 rh rl A mu P F true k)) (U4_info _) (by simp (decide := true) only [ev_eq, ev_ne, ev_const, put_size, hsz, e13, e0, e15]) (fun w' hw' => range_below H6.out.2.1 H6.out.2.2.2 hw')) ?_
        refine ChainL.step (.pointer (some ⟨bc, 0, none⟩)) (g_move rfl (.tmp 0) rfl _ (by simp (decide := true) only [ev_eq, ev_ne, ev_const, put_size, hsz, e13, e0, e15])) ?_
        refine ChainL.step (.int .i64 (k : Nat)) (g_move rfl (.tmp 13) rfl _ (by simp (decide := true) only [ev_eq, ev_ne, ev_const, put_size, hsz, e13, e0, e15])) ?_
        refine ChainL.step _ (g_nil rfl (.tmp 86) rfl ⟨bc, 0, none⟩ (by simp (decide := true) only [ev_eq, ev_ne, ev_const, put_size, hsz, e13, e0, e15])) ?_
        refine ChainL.step _ (g_field rfl 64 7 18 (.tmp 88) rfl bc 0 (by simp (decide := true) only [ev_eq, ev_ne, ev_const, put_size, hsz, e13, e0, e15]) fld64_7) ?_
        refine ChainL.step _ (g_index rfl 58 2 (.tmp 89) (.tmp 87) rfl bc (0 + 18) k (by simp (decide := true) only [ev_eq, ev_ne, ev_const, put_size, hsz, e13, e0, e15]) (by simp (decide := true) only [ev_eq, ev_ne, ev_const, put_size, hsz, e13, e0, e15]) (idx58 _ _ _ hlt)) ?_
        refine ChainL.step _ (g_field rfl 57 1 1 (.tmp 90) rfl bc (0 + 18 + k * 2) (by simp (decide := true) only [ev_eq, ev_ne, ev_const, put_size, hsz, e13, e0, e15]) fld57_1) ?_
        refine ChainL.step _ (g_load rfl (.tmp 91) rfl ⟨bc, 0 + 18 + k * 2 + 1, none⟩ (.int .u64 (dv k)) (by simp (decide := true) only [ev_eq, ev_ne, ev_const, put_size, hsz, e13, e0, e15]) (fun w' hw' => by have h := ((HC.out w' hw').2.1.1 k hlt).2; simpa using h)) ?_
        refine ChainL.step _ (g_call rfl 32 _ rfl rfl #[.agg (U4 (y3 rh rl A mu P F true k)), .int .u64 (dv k)] (by simp (decide := true) [ev_eq, ev_ne, ev_const, put_size, hsz]) (cf32 _) _ (fun w' _ => quo4 _ _ (y3_big _ _ _ _ _ _ _ _) (HW.out.2.2.1 k hlt).1 (HW.out.2.2.1 k hlt).2 w')) ?_
        refine ChainL.step (.tuple #[.agg (U4 (y3 rh rl A mu P F true k / dv k)), .int .u64 (y3 rh rl A mu P F true k % dv k)]) (g_move rfl (.tmp 93) rfl _ (by simp (decide := true) only [ev_eq, ev_ne, ev_const, put_size, hsz, e13, e0, e15])) ?_
        refine ChainL.step (.agg (U4 (y3 rh rl A mu P F true k / dv k))) (g_extract rfl (.tmp 84) 0 rfl #[.agg (U4 (y3 rh rl A mu P F true k / dv k)), .int .u64 (y3 rh rl A mu P F true k % dv k)] _ (by simp (decide := true) only [ev_eq, ev_ne, ev_const, put_size, hsz, e13, e0, e15]) rfl) ?_
        refine ChainL.done ⟨⟨by simp (decide := true) only [put_size, hsz], by simp (decide := true) only [put_size, hsz]⟩, #[.agg (U4 (y3 rh rl A mu P F true k / dv k)), .int .u64 (y3 rh rl A mu P F true k % dv k)], .int .u64 (y3 rh rl A mu P F true k % dv k), U4 (y3 rh rl A mu P F true k / dv k), (by simp (decide := true) only [ev_eq, ev_ne, ev_const, put_size, hsz, e13, e0, e15]), rfl, U4_size _, U4_ones _, (by simp (decide := true) only [ev_eq, ev_ne, ev_const, put_size, hsz, e13, e0, e15]), ?_⟩
        intro b19 w' hS hb1 hb2 hb3
        rw [ha0]
        simp only [Act.put, List.setIfInBounds_toArray, List.set_cons_succ, List.set_cons_zero]
        have H7 : Hid (LoopF w bc b10 cb rh rl A mu dv P F true k (w'.setCells b19 0 (U4 (y3 rh rl A mu P F true k / dv k)).toList) ∧ (w'.setCells b19 0 (U4 (y3 rh rl A mu P F true k / dv k)).toList).rangeAt b19 0 (U4 (y3 rh rl A mu P F true k / dv k)).toList ∧ cb < b19 ∧ b19 < (w'.setCells b19 0 (U4 (y3 rh rl A mu P F true k / dv k)).toList).heap.size) := by
          have hcb := H6.out.1.2.1.2.2.2.2.2.2
          exact ⟨(H6.out.1.mono hS).fresh (by omega) _ _, World.rangeAt_setCells_same _ _ _ _ (by rw [Array.length_toList, U4_size]; exact hb3), by omega, by rw [size_setCells]; exact hb2⟩
        generalize w'.setCells b19 0 (U4 (y3 rh rl A mu P F true k / dv k)).toList = W7 at *
        clear hS hb1 hb2 hb3 HC ha0 hsz e13 e0 e15 w' a0 H6 W6
        go_wp2_with fail
        refine region_y (m := 19) (S := fun w' => w'.rangeAt b19 0 (U4 (y3 rh rl A mu P F true k / dv k)).toList ∧ w'.cell? ⟨bc, 18 + k * 2 + 1, none⟩ = some (.int .u64 (dv k))) 95 (.tmp 114) (.tmp 106) (.tmp 113) (by kernel_rfl) rfl ⟨rfl, rfl, rfl⟩ ⟨rfl, rfl⟩ (hQ_of fun _ _ _ _ _ h => h) ⟨H7.out.2.1, (H7.out.1.2.1.1 k hlt).2⟩ ?_
        simp only [List.take_succ_cons, List.take_zero]
        refine ChainY.frame ?_
        intro a0 ha0
        have hsz : a0.tmps.size = 204 := by rw [ha0]; rfl
        have e13 : a0.eval (.tmp 13) = .int .i64 (k : Nat) := by rw [ha0]; rfl
        have e0 : a0.eval (.tmp 0) = .pointer (some ⟨bc, 0, none⟩) := by rw [ha0]; rfl
        have e19 : a0.eval (.tmp 19) = .pointer (some ⟨b19, 0, none⟩) := by rw [ha0]; rfl
        have e20 : a0.eval (.tmp 20) = .int .u64 (y3 rh rl A mu P F true k % dv k) := by rw [ha0]; rfl
        have e12 : a0.eval (.tmp 12) = .bool ft := by rw [ha0]; rfl
        have e17 : a0.eval (.tmp 17) = .bool (f1 rh rl A mu P k) := by rw [ha0]; rfl
        have e18 : a0.eval (.tmp 18) = .bool true := by rw [ha0]; rfl
        have e11 : a0.eval (.tmp 11) = .pointer (some ⟨cb, 0, none⟩) := by rw [ha0]; rfl
        refine ChainY.step (.int .i64 (k : Nat)) (y_move rfl (.tmp 13) rfl _ (by simp (decide := true) only [ev_eq, ev_ne, ev_const, put_size, hsz, e13, e0, e19, e20, e12, e17, e18, e11])) ?_
        refine ChainY.step _ (y_loadT rfl 93 _ Try.underlying93 rfl (.tmp 19) rfl b19 0 (U4 (y3 rh rl A mu P F true k / dv k)) (U4_info _) (by simp (decide := true) only [ev_eq, ev_ne, ev_const, put_size, hsz, e13, e0, e19, e20, e12, e17, e18, e11]) (fun w' hw' => hw'.1)) ?_
        refine ChainY.step (.int .u64 (y3 rh rl A mu P F true k % dv k)) (y_move rfl (.tmp 20) rfl _ (by simp (decide := true) only [ev_eq, ev_ne, ev_const, put_size, hsz, e13, e0, e19, e20, e12, e17, e18, e11])) ?_
        refine ChainY.step (.pointer (some ⟨bc, 0, none⟩)) (y_move rfl (.tmp 0) rfl _ (by simp (decide := true) only [ev_eq, ev_ne, ev_const, put_size, hsz, e13, e0, e19, e20, e12, e17, e18, e11])) ?_
        refine ChainY.step (.int .i64 (k : Nat)) (y_move rfl (.tmp 13) rfl _ (by simp (decide := true) only [ev_eq, ev_ne, ev_const, put_size, hsz, e13, e0, e19, e20, e12, e17, e18, e11])) ?_
        refine ChainY.step _ (y_nil rfl (.tmp 99) rfl ⟨bc, 0, none⟩ (by simp (decide := true) only [ev_eq, ev_ne, ev_const, put_size, hsz, e13, e0, e19, e20, e12, e17, e18, e11])) ?_
        refine ChainY.step _ (y_field rfl 64 7 18 (.tmp 101) rfl bc 0 (by simp (decide := true) only [ev_eq, ev_ne, ev_const, put_size, hsz, e13, e0, e19, e20, e12, e17, e18, e11]) fld64_7) ?_
        refine ChainY.step _ (y_index rfl 58 2 (.tmp 102) (.tmp 100) rfl bc (0 + 18) k (by simp (decide := true) only [ev_eq, ev_ne, ev_const, put_size, hsz, e13, e0, e19, e20, e12, e17, e18, e11]) (by simp (decide := true) only [ev_eq, ev_ne, ev_const, put_size, hsz, e13, e0, e19, e20, e12, e17, e18, e11]) (idx58 _ _ _ hlt)) ?_
        refine ChainY.step _ (y_field rfl 57 1 1 (.tmp 103) rfl bc (0 + 18 + k * 2) (by simp (decide := true) only [ev_eq, ev_ne, ev_const, put_size, hsz, e13, e0, e19, e20, e12, e17, e18, e11]) fld57_1) ?_
        refine ChainY.step _ (y_load rfl (.tmp 104) rfl ⟨bc, 0 + 18 + k * 2 + 1, none⟩ (.int .u64 (dv k)) (by simp (decide := true) only [ev_eq, ev_ne, ev_const, put_size, hsz, e13, e0, e19, e20, e12, e17, e18, e11]) (fun w' hw' => by have h := hw'.2; simpa using h)) ?_
        refine ChainY.step _ (y_build95 rfl (.tmp 97) (.tmp 98) (.tmp 105) rfl (y3 rh rl A mu P F true k / dv k) (y3 rh rl A mu P F true k % dv k) (dv k) (by simp (decide := true) only [ev_eq, ev_ne, ev_const, put_size, hsz, e13, e0, e19, e20, e12, e17, e18, e11]) (by simp (decide := true) only [ev_eq, ev_ne, ev_const, put_size, hsz, e13, e0, e19, e20, e12, e17, e18, e11]) (by simp (decide := true) only [ev_eq, ev_ne, ev_const, put_size, hsz, e13, e0, e19, e20, e12, e17, e18, e11])) ?_
        refine ChainY.step (.bool ft) (y_move rfl (.tmp 12) rfl _ (by simp (decide := true) only [ev_eq, ev_ne, ev_const, put_size, hsz, e13, e0, e19, e20, e12, e17, e18, e11])) ?_
        refine ChainY.step (.bool ft) (y_move rfl (.tmp 107) rfl _ (by simp (decide := true) only [ev_eq, ev_ne, ev_const, put_size, hsz, e13, e0, e19, e20, e12, e17, e18, e11])) ?_
        refine ChainY.step _ (z_gmove (g := 12) (b0 := ft) rfl rfl rfl (by simp (decide := true) only [put_size, hsz]) (by simp (decide := true) only [ev_eq, ev_ne, ev_const, put_size, hsz, e13, e0, e19, e20, e12, e17, e18, e11]) (.tmp 17) rfl (.bool (f1 rh rl A mu P k)) (by simp (decide := true) only [ev_eq, ev_ne, ev_const, put_size, hsz, e13, e0, e19, e20, e12, e17, e18, e11])) ?_
        refine ChainY.step _ (z_pickand rfl (.tmp 108) (.tmp 109) rfl ft (f1 rh rl A mu P k) (by simp (decide := true) only [ev_eq, ev_ne, ev_const, put_size, hsz, e13, e0, e19, e20, e12, e17, e18, e11]) (by simp (decide := true) only [ev_eq, ev_ne, ev_const, put_size, hsz, e13, e0, e19, e20, e12, e17, e18, e11])) ?_
        refine ChainY.step (.bool (ft && f1 rh rl A mu P k)) (y_move rfl (.tmp 110) rfl _ (by simp (decide := true) only [ev_eq, ev_ne, ev_const, put_size, hsz, e13, e0, e19, e20, e12, e17, e18, e11])) ?_
        refine ChainY.step _ (z_gmove (g := 15) (b0 := ft && f1 rh rl A mu P k) rfl rfl rfl (by simp (decide := true) only [put_size, hsz]) (by simp (decide := true) only [ev_eq, ev_ne, ev_const, put_size, hsz, e13, e0, e19, e20, e12, e17, e18, e11]) (.tmp 18) rfl (.bool (true)) (by simp (decide := true) only [ev_eq, ev_ne, ev_const, put_size, hsz, e13, e0, e19, e20, e12, e17, e18, e11])) ?_
        refine ChainY.step _ (z_pickand rfl (.tmp 111) (.tmp 112) rfl (ft && f1 rh rl A mu P k) (true) (by simp (decide := true) only [ev_eq, ev_ne, ev_const, put_size, hsz, e13, e0, e19, e20, e12, e17, e18, e11]) (by simp (decide := true) only [ev_eq, ev_ne, ev_const, put_size, hsz, e13, e0, e19, e20, e12, e17, e18, e11])) ?_
        refine ChainY.step _ (y_index rfl 96 6 (.tmp 11) (.tmp 96) rfl cb 0 k (by simp (decide := true) only [ev_eq, ev_ne, ev_const, put_size, hsz, e13, e0, e19, e20, e12, e17, e18, e11]) (by simp (decide := true) only [ev_eq, ev_ne, ev_const, put_size, hsz, e13, e0, e19, e20, e12, e17, e18, e11]) (idx96 _ _ _ hlt)) ?_
        refine ChainY.done ⟨cb, 0 + k * 6, U6 (y3 rh rl A mu P F true k / dv k) (y3 rh rl A mu P F true k % dv k) (dv k), .bool ((ft && f1 rh rl A mu P k) && true), (by simp (decide := true) only [ev_eq, ev_ne, ev_const, put_size, hsz, e13, e0, e19, e20, e12, e17, e18, e11]), (by simp (decide := true) only [ev_eq, ev_ne, ev_const, put_size, hsz, e13, e0, e19, e20, e12, e17, e18, e11]), U6_info _ _ _, U6_ones _ _ _, (by simp (decide := true) only [ev_eq, ev_ne, ev_const, put_size, hsz, e13, e0, e19, e20, e12, e17, e18, e11]), ?_, ?_, ?_⟩
        · rw [Nat.zero_add, U6_size]; exact there_sub6 H7.out.1.2.2.1 hlt
        · exact ⟨World.rangeAt_setCells_apart (w := W7.drewN 1) H7.out.2.1 _ _ _ (Or.inl (by have := H7.out.2.2.1; omega)), by rw [World.cell?_setCells_out _ _ _ _ _ (fun h _ => by have := H7.out.1.2.1.2.2.2.2.2.1.1; simp at h; omega)]; exact (H7.out.1.2.1.1 k hlt).2⟩
        rw [ha0]
        simp only [Act.put, List.setIfInBounds_toArray, List.set_cons_succ, List.set_cons_zero]
        have H8 : Hid (LoopF w bc b10 cb rh rl A mu dv P F true (k + 1) ((W7.drewN 1).setCells cb (0 + k * 6) (U6 (y3 rh rl A mu P F true k / dv k) (y3 rh rl A mu P F true k % dv k) (dv k)).toList)) := by
          rw [Nat.zero_add]
          have h9 : LoopF w bc b10 cb rh rl A mu dv P F true k (W7.drewN 1) := H7.out.1.mono ⟨rfl, rfl, rfl, Nat.le_refl _, fun _ _ => rfl⟩
          exact h9.putC hlt
        have HFn : Hid (fitsTo rh rl A mu P F true (k + 1) = ((ft && f1 rh rl A mu P k) && true)) := by
          show ((_ && _) && _) = _
          rw [HFT.out]
          unfold f2
          rfl
        generalize (W7.drewN 1).setCells cb (0 + k * 6) (U6 (y3 rh rl A mu P F true k / dv k) (y3 rh rl A mu P F true k % dv k) (dv k)).toList = W8 at *
        clear ha0 hsz e13 e0 e19 e20 e12 e17 e18 e11 a0 H7
        go_wp2_with fail
        go_roundw
        case rel => exact ⟨k + 1, rfl, by rw [HFn.out], by omega, H8.out⟩
        case measure => simp [RowKit.intOf]; omega
    · have hk5 : k = 5 := by omega
      subst hk5
      have HX0 : Hid (∀ k, k < 5 → 0 ≤ x1 rh rl A mu k * P) := fun k hk => Int.mul_nonneg (x1_big HW.out.1 (HW.out.2.1 k hk).2).1 HW.out.2.2.2.1.1
      cases hf : fitsTo rh rl A mu P F folded 5 with
      | false =>
        have HFF : Hid (fitsTo rh rl A mu P F folded 5 = false) := hf
        clear hf
        go_wp2_with fail
        go_returns
        refine ⟨⟨0, false, rfl, ⟨by decide, by decide⟩, ?_⟩, HI.out.1⟩
        obtain ⟨j, hj, hj'⟩ := fits_false HFF.out
        exact right_of_big (fun k hk => by
          unfold nn
          cases folded with
          | true => exact HX0.out k hk
          | false => exact Int.mul_nonneg (HX0.out k hk) (Int.le_of_lt HF1.out)) (fun k hk => ⟨(HW.out.2.2.1 k hk).2, (HW.out.2.2.1 k hk).1.2⟩) hj (nn_past (HX0.out j hj) HF1.out hj') 0
      | true =>
        have HNN : Hid (∀ k, k < 5 → y3 rh rl A mu P F folded k = nn rh rl A mu P F folded k ∧ Big (nn rh rl A mu P F folded k)) := fun k hk => nn_fits (HX0.out k hk) (Int.le_of_lt HF1.out) (fits_true hf k hk).1 (fits_true hf k hk).2
        clear hf
        obtain ⟨z, hz⟩ : ∃ z : Nat → Int, z = nn rh rl A mu P F folded := ⟨_, rfl⟩
        have HZ : Hid (z = nn rh rl A mu P F folded ∧ ∀ k, k < 5 → Big (z k) ∧ Word (z k % dv k) ∧ z k % dv k < dv k ∧ Big (z k / dv k)) := by
          refine ⟨hz, fun k hk => ?_⟩
          have h1 := (HNN.out k hk).2
          rw [← hz] at h1
          have h2 := HW.out.2.2.1 k hk
          have h3 := Int.emod_nonneg (z k) (show dv k ≠ 0 by omega)
          have h4 := Int.emod_lt_of_pos (z k) h2.2
          obtain ⟨h5, h6⟩ := h2.1
          exact ⟨h1, ⟨h3, by omega⟩, h4, big_div h1 h2.2⟩
        have HI2 : Hid (Below w.heap.size w wr ∧ cb < wr.heap.size ∧ ∀ i, i < 5 → wr.rangeAt cb (i * 6) (U6 (z i / dv i) (z i % dv i) (dv i)).toList) := ⟨HI.out.1, HI.out.2.1.2.2.2.2.2.2, fun i hi => by
          have h := HI.out.2.2.2 i hi
          rw [(HNN.out i hi).1, ← hz] at h
          exact h⟩
        clear HI HNN HX0 hz hlt hk
        have HL0 : Hid (wr.rangeAt cb 0 (U6 (z 0 / dv 0) (z 0 % dv 0) (dv 0)).toList ∧ (wr.alloc (.cells #[.int .u64 0, .int .u64 0, .int .u64 0, .int .u64 0, .int .u64 0, .int .u64 0] 95)).there wr.heap.size 0 (U6 (z 0 / dv 0) (z 0 % dv 0) (dv 0)).size) := by
          refine ⟨?_, ?_⟩
          · have h := HI2.out.2.2 0 (by omega)
            rw [Nat.zero_mul] at h
            exact h
          · rw [U6_size]; exact there_new wr 95 #[.int .u64 0, .int .u64 0, .int .u64 0, .int .u64 0, .int .u64 0, .int .u64 0]
        go_upto_region 18 with (first
          | (refine wpList_load_mid rfl 95 (.tmp 118) rfl cb 0 rfl (U6 (z 0 / dv 0) (z 0 % dv 0) (dv 0)).toList _ HL0.out.1 Try.underlying95 rfl (by rw [Array.length_toList]; exact U6_info _ _ _) ?_)
          | (refine wpList_store_mid rfl 95 (.tmp 21) (.tmp 119) rfl wr.heap.size 0 (U6 (z 0 / dv 0) (z 0 % dv 0) (dv 0)) rfl rfl HL0.out.2 (U6_info _ _ _) (U6_ones _ _ _) ?_))
        have HC1 : Hid ((∀ i, i < 5 → ((wr.alloc (.cells #[.int .u64 0, .int .u64 0, .int .u64 0, .int .u64 0, .int .u64 0, .int .u64 0] 95)).setCells wr.heap.size 0 (U6 (z 0 / dv 0) (z 0 % dv 0) (dv 0)).toList).rangeAt cb (i * 6) (U6 (z i / dv i) (z i % dv i) (dv i)).toList) ∧ cb < wr.heap.size ∧ wr.heap.size < ((wr.alloc (.cells #[.int .u64 0, .int .u64 0, .int .u64 0, .int .u64 0, .int .u64 0, .int .u64 0] 95)).setCells wr.heap.size 0 (U6 (z 0 / dv 0) (z 0 % dv 0) (dv 0)).toList).heap.size ∧ ((wr.alloc (.cells #[.int .u64 0, .int .u64 0, .int .u64 0, .int .u64 0, .int .u64 0, .int .u64 0] 95)).setCells wr.heap.size 0 (U6 (z 0 / dv 0) (z 0 % dv 0) (dv 0)).toList).there wr.heap.size 0 6 ∧ Below w.heap.size w ((wr.alloc (.cells #[.int .u64 0, .int .u64 0, .int .u64 0, .int .u64 0, .int .u64 0, .int .u64 0] 95)).setCells wr.heap.size 0 (U6 (z 0 / dv 0) (z 0 % dv 0) (dv 0)).toList) ∧ ((wr.alloc (.cells #[.int .u64 0, .int .u64 0, .int .u64 0, .int .u64 0, .int .u64 0, .int .u64 0] 95)).setCells wr.heap.size 0 (U6 (z 0 / dv 0) (z 0 % dv 0) (dv 0)).toList).rangeAt wr.heap.size 0 (U6 (z 0 / dv 0) (z 0 % dv 0) (dv 0)).toList) := by
          obtain ⟨a1, a2, a3⟩ := HI2.out
          have ht := HL0.out.2
          have hb : Below wr.heap.size wr ((wr.alloc (.cells #[.int .u64 0, .int .u64 0, .int .u64 0, .int .u64 0, .int .u64 0, .int .u64 0] 95)).setCells wr.heap.size 0 (U6 (z 0 / dv 0) (z 0 % dv 0) (dv 0)).toList) := below_setCells (Nat.le_refl _) _ _ _ ((Below.refl _ _).alloc (Nat.le_refl _) _)
          refine ⟨fun i hi => range_below (a3 i hi) a2 hb, a2, by rw [size_setCells]; simp, World.there_setCells (by rw [U6_size] at ht; exact ht) _ _ _, a1.trans (hb.mono a1.size), World.rangeAt_setCells_same _ _ _ _ (by rw [Array.length_toList]; exact ht)⟩
        generalize (wr.alloc (.cells #[.int .u64 0, .int .u64 0, .int .u64 0, .int .u64 0, .int .u64 0, .int .u64 0] 95)).setCells wr.heap.size 0 (U6 (z 0 / dv 0) (z 0 % dv 0) (dv 0)).toList = W1 at *
        have HN21 : Hid (w.heap.size ≤ wr.heap.size) := HI2.out.1.size
        generalize wr.heap.size = b21 at *
        clear HI2 HL0
        go_wp2_with fail
        go_loopw [122] (fun v122 wx => ∃ d u : Nat, v122 = .int .i64 d ∧ d ≤ 2 ∧ u ≤ d ∧ Hid (((∀ i, i < 5 → (wx).rangeAt cb (i * 6) (U6 (z i / dv i) (z i % dv i) (dv i)).toList) ∧ cb < b21 ∧ b21 < (wx).heap.size ∧ (wx).there b21 0 6 ∧ Below w.heap.size w (wx)) ∧ wx.rangeAt b21 0 (U6 (z u / dv u) (z u % dv u) (dv u)).toList ∧ ∀ i, i ≤ d → z i * dv u ≤ z u * dv i)) (fun v122 _ => 2 - (RowKit.intOf v122).toNat)
        case atStart => exact ⟨0, 0, rfl, by omega, by omega, ⟨HC1.out.1, HC1.out.2.1, HC1.out.2.2.1, HC1.out.2.2.2.1, HC1.out.2.2.2.2.1⟩, HC1.out.2.2.2.2.2, fun i hi => by rw [show i = 0 by omega]; exact Int.le_refl _⟩
        case round =>
          clear HC1
          obtain ⟨d, u, rfl, hd2, hud, HR⟩ := hrel
          by_cases hlt : d < 2
          · have hlt' : (d : Int) < 2 := by omega
            have h40 : (0 : Int) ≤ (d : Int) := by omega
            have HL1 : Hid (wr.rangeAt cb (6 + d * 6) (U6 (z (d + 1) / dv (d + 1)) (z (d + 1) % dv (d + 1)) (dv (d + 1))).toList ∧ (wr.alloc (.cells #[.int .u64 0, .int .u64 0, .int .u64 0, .int .u64 0, .int .u64 0, .int .u64 0] 95)).there wr.heap.size 0 (U6 (z (d + 1) / dv (d + 1)) (z (d + 1) % dv (d + 1)) (dv (d + 1))).size) := by
              refine ⟨?_, ?_⟩
              · have h := HR.out.1.1 (d + 1) (by omega)
                rw [show (d + 1) * 6 = 6 + d * 6 by omega] at h
                exact h
              · rw [U6_size]; exact there_new wr 95 #[.int .u64 0, .int .u64 0, .int .u64 0, .int .u64 0, .int .u64 0, .int .u64 0]
            go_upto_region 21 with (first
              | (refine wpList_load_mid rfl 95 (.tmp 124) rfl cb (6 + d * 6) rfl (U6 (z (d + 1) / dv (d + 1)) (z (d + 1) % dv (d + 1)) (dv (d + 1))).toList _ HL1.out.1 Try.underlying95 rfl (by rw [Array.length_toList]; exact U6_info _ _ _) ?_)
              | (refine wpList_store_mid rfl 95 (.tmp 23) (.tmp 125) rfl wr.heap.size 0 (U6 (z (d + 1) / dv (d + 1)) (z (d + 1) % dv (d + 1)) (dv (d + 1))) rfl rfl HL1.out.2 (U6_info _ _ _) (U6_ones _ _ _) ?_))
            have H2 : Hid (((∀ i, i < 5 → ((wr.alloc (.cells #[.int .u64 0, .int .u64 0, .int .u64 0, .int .u64 0, .int .u64 0, .int .u64 0] 95)).setCells wr.heap.size 0 (U6 (z (d + 1) / dv (d + 1)) (z (d + 1) % dv (d + 1)) (dv (d + 1))).toList).rangeAt cb (i * 6) (U6 (z i / dv i) (z i % dv i) (dv i)).toList) ∧ cb < b21 ∧ b21 < ((wr.alloc (.cells #[.int .u64 0, .int .u64 0, .int .u64 0, .int .u64 0, .int .u64 0, .int .u64 0] 95)).setCells wr.heap.size 0 (U6 (z (d + 1) / dv (d + 1)) (z (d + 1) % dv (d + 1)) (dv (d + 1))).toList).heap.size ∧ ((wr.alloc (.cells #[.int .u64 0, .int .u64 0, .int .u64 0, .int .u64 0, .int .u64 0, .int .u64 0] 95)).setCells wr.heap.size 0 (U6 (z (d + 1) / dv (d + 1)) (z (d + 1) % dv (d + 1)) (dv (d + 1))).toList).there b21 0 6 ∧ Below w.heap.size w ((wr.alloc (.cells #[.int .u64 0, .int .u64 0, .int .u64 0, .int .u64 0, .int .u64 0, .int .u64 0] 95)).setCells wr.heap.size 0 (U6 (z (d + 1) / dv (d + 1)) (z (d + 1) % dv (d + 1)) (dv (d + 1))).toList)) ∧ ((wr.alloc (.cells #[.int .u64 0, .int .u64 0, .int .u64 0, .int .u64 0, .int .u64 0, .int .u64 0] 95)).setCells wr.heap.size 0 (U6 (z (d + 1) / dv (d + 1)) (z (d + 1) % dv (d + 1)) (dv (d + 1))).toList).rangeAt b21 0 (U6 (z u / dv u) (z u % dv u) (dv u)).toList ∧ ((wr.alloc (.cells #[.int .u64 0, .int .u64 0, .int .u64 0, .int .u64 0, .int .u64 0, .int .u64 0] 95)).setCells wr.heap.size 0 (U6 (z (d + 1) / dv (d + 1)) (z (d + 1) % dv (d + 1)) (dv (d + 1))).toList).rangeAt wr.heap.size 0 (U6 (z (d + 1) / dv (d + 1)) (z (d + 1) % dv (d + 1)) (dv (d + 1))).toList ∧ b21 < wr.heap.size ∧ wr.heap.size < ((wr.alloc (.cells #[.int .u64 0, .int .u64 0, .int .u64 0, .int .u64 0, .int .u64 0, .int .u64 0] 95)).setCells wr.heap.size 0 (U6 (z (d + 1) / dv (d + 1)) (z (d + 1) % dv (d + 1)) (dv (d + 1))).toList).heap.size) := by
              obtain ⟨⟨a1, a2, a3, a4, a5⟩, a6, a7⟩ := HR.out
              have ht := HL1.out.2
              have hb : Below wr.heap.size wr ((wr.alloc (.cells #[.int .u64 0, .int .u64 0, .int .u64 0, .int .u64 0, .int .u64 0, .int .u64 0] 95)).setCells wr.heap.size 0 (U6 (z (d + 1) / dv (d + 1)) (z (d + 1) % dv (d + 1)) (dv (d + 1))).toList) := below_setCells (Nat.le_refl _) _ _ _ ((Below.refl _ _).alloc (Nat.le_refl _) _)
              have hs : wr.heap.size < ((wr.alloc (.cells #[.int .u64 0, .int .u64 0, .int .u64 0, .int .u64 0, .int .u64 0, .int .u64 0] 95)).setCells wr.heap.size 0 (U6 (z (d + 1) / dv (d + 1)) (z (d + 1) % dv (d + 1)) (dv (d + 1))).toList).heap.size := by rw [size_setCells]; simp
              exact ⟨⟨fun i hi => range_below (a1 i hi) (by omega) hb, a2, by omega, there_below a4 a3 hb, a5.trans (hb.mono a5.size)⟩, range_below a6 a3 hb, World.rangeAt_setCells_same _ _ _ _ (by rw [Array.length_toList]; exact ht), a3, hs⟩
            generalize (wr.alloc (.cells #[.int .u64 0, .int .u64 0, .int .u64 0, .int .u64 0, .int .u64 0, .int .u64 0] 95)).setCells wr.heap.size 0 (U6 (z (d + 1) / dv (d + 1)) (z (d + 1) % dv (d + 1)) (dv (d + 1))).toList = W4 at *
            generalize wr.heap.size = b23 at *
            clear HL1
            go_wp2_with (first
              | (refine wpList_load_mid rfl 95 (.tmp 23) rfl b23 0 rfl (U6 (z (d + 1) / dv (d + 1)) (z (d + 1) % dv (d + 1)) (dv (d + 1))).toList _ H2.out.2.2.1 Try.underlying95 rfl (by rw [Array.length_toList]; exact U6_info _ _ _) ?_)
              | (refine wpList_load_mid rfl 95 (.tmp 21) rfl b21 0 rfl (U6 (z u / dv u) (z u % dv u) (dv u)).toList _ H2.out.2.1 Try.underlying95 rfl (by rw [Array.length_toList]; exact U6_info _ _ _) ?_))
            try simp only [Array.toArray_toList]
            have hzd := HZ.out.2 (d + 1) (by omega)
            have hzu := HZ.out.2 u (by omega)
            have hdd := HW.out.2.2.1 (d + 1) (by omega)
            have hdu := HW.out.2.2.1 u (by omega)
            refine (mix6 _ _ _ _ _ _ hzd.2.2.2 hzu.2.2.2 hzd.2.1 hdd.1 hzu.2.1 hdu.1 _).mono ?_
            rintro e w5 ⟨rfl, hb⟩
            have hgt := mix_gt (WA := z (d + 1) / dv (d + 1)) (WB := z u / dv u) (an := z (d + 1) % dv (d + 1)) (ad := dv (d + 1)) (bn := z u % dv u) (bd := dv u) ⟨hzd.2.1.1, hzd.2.2.1⟩ ⟨hzu.2.1.1, hzu.2.2.1⟩
            have ed : z (d + 1) / dv (d + 1) * dv (d + 1) + z (d + 1) % dv (d + 1) = z (d + 1) := by rw [Int.mul_comm]; exact Int.mul_ediv_add_emod _ _
            have eu : z u / dv u * dv u + z u % dv u = z u := by rw [Int.mul_comm]; exact Int.mul_ediv_add_emod _ _
            rw [ed, eu] at hgt
            have H3 : Hid (((∀ i, i < 5 → (w5).rangeAt cb (i * 6) (U6 (z i / dv i) (z i % dv i) (dv i)).toList) ∧ cb < b21 ∧ b21 < (w5).heap.size ∧ (w5).there b21 0 6 ∧ Below w.heap.size w (w5)) ∧ w5.rangeAt b21 0 (U6 (z u / dv u) (z u % dv u) (dv u)).toList ∧ w5.rangeAt b23 0 (U6 (z (d + 1) / dv (d + 1)) (z (d + 1) % dv (d + 1)) (dv (d + 1))).toList ∧ b21 < b23 ∧ b23 < w5.heap.size) := by
              obtain ⟨⟨a1, a2, a3, a4, a5⟩, a6, a7, a8, a9⟩ := H2.out
              have hs := hb.size
              exact ⟨⟨fun i hi => range_below (a1 i hi) (by omega) hb, a2, by omega, there_below a4 a3 hb, a5.trans (hb.mono a5.size)⟩, range_below a6 a3 hb, range_below a7 a9 hb, a8, by omega⟩
            clear H2 hb ed eu hzd hzu hdd hdu W4
            generalize (if cmpI (z (d + 1) / dv (d + 1)) (z u / dv u) = 0 then cmpI (z (d + 1) % dv (d + 1) * dv u) (z u % dv u * dv (d + 1)) else cmpI (z (d + 1) / dv (d + 1)) (z u / dv u)) = cv at *
            by_cases hcv : 0 < cv
            · have HGT : Hid (z u * dv (d + 1) < z (d + 1) * dv u) := hgt.1 hcv
              clear hgt
              have HL2 : Hid (w5.there b21 0 (U6 (z (d + 1) / dv (d + 1)) (z (d + 1) % dv (d + 1)) (dv (d + 1))).size) := by rw [U6_size]; exact H3.out.1.2.2.2.1
              go_upto_region 23 with (first
                | (refine wpList_load_mid rfl 95 (.tmp 23) rfl b23 0 rfl (U6 (z (d + 1) / dv (d + 1)) (z (d + 1) % dv (d + 1)) (dv (d + 1))).toList _ H3.out.2.2.1 Try.underlying95 rfl (by rw [Array.length_toList]; exact U6_info _ _ _) ?_)
                | (refine wpList_store_mid rfl 95 (.tmp 21) (.tmp 130) rfl b21 0 (U6 (z (d + 1) / dv (d + 1)) (z (d + 1) % dv (d + 1)) (dv (d + 1))) rfl rfl HL2.out (U6_info _ _ _) (U6_ones _ _ _) ?_))
              have H4 : Hid (((∀ i, i < 5 → (w5.setCells b21 0 (U6 (z (d + 1) / dv (d + 1)) (z (d + 1) % dv (d + 1)) (dv (d + 1))).toList).rangeAt cb (i * 6) (U6 (z i / dv i) (z i % dv i) (dv i)).toList) ∧ cb < b21 ∧ b21 < (w5.setCells b21 0 (U6 (z (d + 1) / dv (d + 1)) (z (d + 1) % dv (d + 1)) (dv (d + 1))).toList).heap.size ∧ (w5.setCells b21 0 (U6 (z (d + 1) / dv (d + 1)) (z (d + 1) % dv (d + 1)) (dv (d + 1))).toList).there b21 0 6 ∧ Below w.heap.size w (w5.setCells b21 0 (U6 (z (d + 1) / dv (d + 1)) (z (d + 1) % dv (d + 1)) (dv (d + 1))).toList)) ∧ (w5.setCells b21 0 (U6 (z (d + 1) / dv (d + 1)) (z (d + 1) % dv (d + 1)) (dv (d + 1))).toList).rangeAt b21 0 (U6 (z (d + 1) / dv (d + 1)) (z (d + 1) % dv (d + 1)) (dv (d + 1))).toList) := by
                obtain ⟨⟨a1, a2, a3, a4, a5⟩, a6, a7, a8, a9⟩ := H3.out
                have hn : w.heap.size ≤ b21 := HN21.out
                exact ⟨⟨fun i hi => World.rangeAt_setCells_apart (a1 i hi) _ _ _ (Or.inl (by omega)), a2, by rw [size_setCells]; exact a3, World.there_setCells a4 _ _ _, below_setCells hn _ _ _ a5⟩, World.rangeAt_setCells_same _ _ _ _ (by rw [Array.length_toList]; exact HL2.out)⟩
              generalize w5.setCells b21 0 (U6 (z (d + 1) / dv (d + 1)) (z (d + 1) % dv (d + 1)) (dv (d + 1))).toList = W6 at *
              clear HL2 H3
              go_wp2_with fail
              go_roundw
              case rel =>
                refine ⟨d + 1, d + 1, rfl, by omega, by omega, H4.out.1, H4.out.2, fun i hi => ?_⟩
                by_cases e : i = d + 1
                · subst e; exact Int.le_refl _
                · exact frac_trans (HW.out.2.2.1 u (by omega)).2 (Int.le_of_lt (HW.out.2.2.1 i (by omega)).2) (Int.le_of_lt (HW.out.2.2.1 (d + 1) (by omega)).2) (HR.out.2.2 i (by omega)) (Int.le_of_lt HGT.out)
              case measure => simp [RowKit.intOf]; omega
            · have HGT : Hid (z (d + 1) * dv u ≤ z u * dv (d + 1)) := Int.not_lt.1 (fun h => hcv (hgt.2 h))
              clear hgt
              go_wp2_with fail
              go_roundw
              case rel =>
                refine ⟨d + 1, u, rfl, by omega, by omega, H3.out.1, H3.out.2.1, fun i hi => ?_⟩
                by_cases e : i = d + 1
                · subst e; exact HGT.out
                · exact HR.out.2.2 i (by omega)
              case measure => simp [RowKit.intOf]; omega
          · have hd : d = 2 := by omega
            subst hd
            have HT : Hid (Top z dv u) := ⟨by omega, fun i hi => HR.out.2.2 i (by omega)⟩
            have HG : Hid (wr.rangeAt b21 0 (U4 (z u / dv u)).toList ∧ wr.rangeAt cb 18 (U4 (z 3 / dv 3)).toList) := ⟨U6_range HR.out.2.1, by have h := HR.out.1.1 3 (by omega); rw [show 3 * 6 = 18 from rfl] at h; exact U6_range h⟩
            have hzu := (HZ.out.2 u (by omega)).2.2.2
            have hz3 := (HZ.out.2 3 (by omega)).2.2.2
            have hz4 := (HZ.out.2 4 (by omega)).2.2.2
            have HB3 : Hid (Big (z u / dv u) ∧ Big (z 3 / dv 3) ∧ Big (z 4 / dv 4)) := ⟨hzu, hz3, hz4⟩
            clear hzu hz3 hz4
            go_wp2_with (first
              | (refine wpList_load_mid rfl 93 (.tmp 133) rfl b21 0 rfl (U4 (z u / dv u)).toList _ HG.out.1 Try.underlying93 rfl (U4_info' _) ?_)
              | (refine wpList_load_mid rfl 93 (.tmp 136) rfl cb 18 rfl (U4 (z 3 / dv 3)).toList _ HG.out.2 Try.underlying93 rfl (U4_info' _) ?_))
            try simp only [Array.toArray_toList]
            refine (add4 _ _ HB3.out.1 HB3.out.2.1 _).mono ?_
            rintro e w6 ⟨rfl, hb⟩
            obtain ⟨s1, hs1⟩ : ∃ s1, s1 = (z u / dv u + z 3 / dv 3) % 115792089237316195423570985008687907853269984665640564039457584007913129639936 := ⟨_, rfl⟩
            obtain ⟨g1, hg1⟩ : ∃ g1, g1 = decide (z u / dv u + z 3 / dv 3 < 115792089237316195423570985008687907853269984665640564039457584007913129639936) := ⟨_, rfl⟩
            rw [U4_emod (z u / dv u + z 3 / dv 3), ← hs1, ← hg1]
            have HS1 : Hid (s1 = (z u / dv u + z 3 / dv 3) % 115792089237316195423570985008687907853269984665640564039457584007913129639936 ∧ Big s1) := ⟨hs1, by rw [hs1]; omega, by rw [hs1]; omega⟩
            have HG1 : Hid (g1 = decide (z u / dv u + z 3 / dv 3 < 115792089237316195423570985008687907853269984665640564039457584007913129639936)) := hg1
            have H5 : Hid (((∀ i, i < 5 → (w6).rangeAt cb (i * 6) (U6 (z i / dv i) (z i % dv i) (dv i)).toList) ∧ cb < b21 ∧ b21 < (w6).heap.size ∧ (w6).there b21 0 6 ∧ Below w.heap.size w (w6)) ∧ w6.rangeAt b21 0 (U6 (z u / dv u) (z u % dv u) (dv u)).toList) := by
              obtain ⟨⟨a1, a2, a3, a4, a5⟩, a6, a7⟩ := HR.out
              have hs := hb.size
              exact ⟨⟨fun i hi => range_below (a1 i hi) (by omega) hb, a2, by omega, there_below a4 a3 hb, a5.trans (hb.mono a5.size)⟩, range_below a6 a3 hb⟩
            have HT6 : Hid ((w6.alloc (.cells #[.int .u64 0, .int .u64 0, .int .u64 0, .int .u64 0] 93)).there w6.heap.size 0 (U4 s1).size) := by rw [U4_size]; exact there_new w6 93 #[.int .u64 0, .int .u64 0, .int .u64 0, .int .u64 0]
            clear hb hs1 hg1 HG
            go_upto_region 25 with (refine wpList_store_mid rfl 93 (.tmp 24) (.tmp 139) rfl w6.heap.size 0 (U4 s1) rfl rfl HT6.out (U4_info _) (U4_ones _) ?_)
            have H6 : Hid (((∀ i, i < 5 → ((w6.alloc (.cells #[.int .u64 0, .int .u64 0, .int .u64 0, .int .u64 0] 93)).setCells w6.heap.size 0 (U4 s1).toList).rangeAt cb (i * 6) (U6 (z i / dv i) (z i % dv i) (dv i)).toList) ∧ cb < b21 ∧ b21 < ((w6.alloc (.cells #[.int .u64 0, .int .u64 0, .int .u64 0, .int .u64 0] 93)).setCells w6.heap.size 0 (U4 s1).toList).heap.size ∧ ((w6.alloc (.cells #[.int .u64 0, .int .u64 0, .int .u64 0, .int .u64 0] 93)).setCells w6.heap.size 0 (U4 s1).toList).there b21 0 6 ∧ Below w.heap.size w ((w6.alloc (.cells #[.int .u64 0, .int .u64 0, .int .u64 0, .int .u64 0] 93)).setCells w6.heap.size 0 (U4 s1).toList)) ∧ ((w6.alloc (.cells #[.int .u64 0, .int .u64 0, .int .u64 0, .int .u64 0] 93)).setCells w6.heap.size 0 (U4 s1).toList).rangeAt b21 0 (U6 (z u / dv u) (z u % dv u) (dv u)).toList ∧ ((w6.alloc (.cells #[.int .u64 0, .int .u64 0, .int .u64 0, .int .u64 0] 93)).setCells w6.heap.size 0 (U4 s1).toList).rangeAt w6.heap.size 0 (U4 s1).toList ∧ ((w6.alloc (.cells #[.int .u64 0, .int .u64 0, .int .u64 0, .int .u64 0] 93)).setCells w6.heap.size 0 (U4 s1).toList).there w6.heap.size 0 4 ∧ b21 < w6.heap.size ∧ w6.heap.size < ((w6.alloc (.cells #[.int .u64 0, .int .u64 0, .int .u64 0, .int .u64 0] 93)).setCells w6.heap.size 0 (U4 s1).toList).heap.size) := by
              obtain ⟨⟨a1, a2, a3, a4, a5⟩, a6⟩ := H5.out
              have ht := HT6.out
              rw [U4_size] at ht
              have hb : Below w6.heap.size w6 ((w6.alloc (.cells #[.int .u64 0, .int .u64 0, .int .u64 0, .int .u64 0] 93)).setCells w6.heap.size 0 (U4 s1).toList) := below_setCells (Nat.le_refl _) _ _ _ ((Below.refl _ _).alloc (Nat.le_refl _) _)
              have hs : w6.heap.size < ((w6.alloc (.cells #[.int .u64 0, .int .u64 0, .int .u64 0, .int .u64 0] 93)).setCells w6.heap.size 0 (U4 s1).toList).heap.size := by rw [size_setCells]; simp
              exact ⟨⟨fun i hi => range_below (a1 i hi) (by omega) hb, a2, by omega, there_below a4 a3 hb, a5.trans (hb.mono a5.size)⟩, range_below a6 a3 hb, World.rangeAt_setCells_same _ _ _ _ (by rw [Array.length_toList, U4_size]; exact ht), World.there_setCells ht _ _ _, a3, hs⟩
            generalize (w6.alloc (.cells #[.int .u64 0, .int .u64 0, .int .u64 0, .int .u64 0] 93)).setCells w6.heap.size 0 (U4 s1).toList = W7 at *
            generalize w6.heap.size = b24 at *
            clear H5 HT6 HR
            have HG : Hid (W7.rangeAt cb 24 (U4 (z 4 / dv 4)).toList) := by have h := H6.out.1.1 4 (by omega); rw [show 4 * 6 = 24 from rfl] at h; exact U6_range h
            go_wp2_with (first
              | (refine wpList_load_mid rfl 93 (.tmp 24) rfl b24 0 rfl (U4 s1).toList _ H6.out.2.2.1 Try.underlying93 rfl (U4_info' _) ?_)
              | (refine wpList_load_mid rfl 93 (.tmp 144) rfl cb 24 rfl (U4 (z 4 / dv 4)).toList _ HG.out Try.underlying93 rfl (U4_info' _) ?_))
            try simp only [Array.toArray_toList]
            refine (add4 _ _ HS1.out.2 HB3.out.2.2 _).mono ?_
            rintro e w8 ⟨rfl, hb⟩
            obtain ⟨s2, hs2⟩ : ∃ s2, s2 = (s1 + z 4 / dv 4) % 115792089237316195423570985008687907853269984665640564039457584007913129639936 := ⟨_, rfl⟩
            obtain ⟨g2, hg2⟩ : ∃ g2, g2 = decide (s1 + z 4 / dv 4 < 115792089237316195423570985008687907853269984665640564039457584007913129639936) := ⟨_, rfl⟩
            rw [U4_emod (s1 + z 4 / dv 4), ← hs2, ← hg2]
            have HS2 : Hid (s2 = (s1 + z 4 / dv 4) % 115792089237316195423570985008687907853269984665640564039457584007913129639936 ∧ Big s2) := ⟨hs2, by rw [hs2]; omega, by rw [hs2]; omega⟩
            have HG2 : Hid (g2 = decide (s1 + z 4 / dv 4 < 115792089237316195423570985008687907853269984665640564039457584007913129639936)) := hg2
            have H8 : Hid (((∀ i, i < 5 → (w8).rangeAt cb (i * 6) (U6 (z i / dv i) (z i % dv i) (dv i)).toList) ∧ cb < b21 ∧ b21 < (w8).heap.size ∧ (w8).there b21 0 6 ∧ Below w.heap.size w (w8)) ∧ (w8).rangeAt b21 0 (U6 (z u / dv u) (z u % dv u) (dv u)).toList ∧ (w8).rangeAt b24 0 (U4 s1).toList ∧ (w8).there b24 0 4 ∧ b21 < b24 ∧ b24 < (w8).heap.size) := by
              obtain ⟨⟨a1, a2, a3, a4, a5⟩, a6, a7, a8, a9, a10⟩ := H6.out
              have hs := hb.size
              exact ⟨⟨fun i hi => range_below (a1 i hi) (by omega) hb, a2, by omega, there_below a4 a3 hb, a5.trans (hb.mono a5.size)⟩, range_below a6 a3 hb, range_below a7 a10 hb, there_below a8 a10 hb, a9, by omega⟩
            have HT8 : Hid (w8.there b24 0 (U4 s2).size) := by rw [U4_size]; exact H8.out.2.2.2.1
            clear hb hs2 hg2 HG H6 W7
            go_upto_region 26 with (refine wpList_store_mid rfl 93 (.tmp 24) (.tmp 147) rfl b24 0 (U4 s2) rfl rfl HT8.out (U4_info _) (U4_ones _) ?_)
            have H9 : Hid (((∀ i, i < 5 → (w8.setCells b24 0 (U4 s2).toList).rangeAt cb (i * 6) (U6 (z i / dv i) (z i % dv i) (dv i)).toList) ∧ cb < b21 ∧ b21 < (w8.setCells b24 0 (U4 s2).toList).heap.size ∧ (w8.setCells b24 0 (U4 s2).toList).there b21 0 6 ∧ Below w.heap.size w (w8.setCells b24 0 (U4 s2).toList)) ∧ (w8.setCells b24 0 (U4 s2).toList).rangeAt b21 0 (U6 (z u / dv u) (z u % dv u) (dv u)).toList ∧ (w8.setCells b24 0 (U4 s2).toList).rangeAt b24 0 (U4 s2).toList ∧ (w8.setCells b24 0 (U4 s2).toList).there b24 0 4 ∧ b21 < b24 ∧ b24 < (w8.setCells b24 0 (U4 s2).toList).heap.size) := by
              obtain ⟨⟨a1, a2, a3, a4, a5⟩, a6, a7, a8, a9, a10⟩ := H8.out
              have ht := HT8.out
              rw [U4_size] at ht
              have hn := HN21.out
              exact ⟨⟨fun i hi => World.rangeAt_setCells_apart (a1 i hi) _ _ _ (Or.inl (by omega)), a2, by rw [size_setCells]; exact a3, World.there_setCells a4 _ _ _, below_setCells (by omega) _ _ _ a5⟩, World.rangeAt_setCells_apart a6 _ _ _ (Or.inl (by omega)), World.rangeAt_setCells_same _ _ _ _ (by rw [Array.length_toList, U4_size]; exact ht), World.there_setCells a8 _ _ _, a9, by rw [size_setCells]; exact a10⟩
            generalize w8.setCells b24 0 (U4 s2).toList = W9 at *
            clear H8 HT8 w8
            go_wp2_with fail
            refine region_all73 (by kernel_rfl) ?_
            refine ChainL.frame ?_
            intro a0 ha0
            have hsz : a0.tmps.size = 204 := by rw [ha0]; rfl
            have e21 : a0.eval (.tmp 21) = .pointer (some ⟨b21, 0, none⟩) := by rw [ha0]; rfl
            have e11 : a0.eval (.tmp 11) = .pointer (some ⟨cb, 0, none⟩) := by rw [ha0]; rfl
            refine ChainL.step _ (g_loadT rfl 95 _ Try.underlying95 rfl (.tmp 21) rfl b21 0 (U6 (z u / dv u) (z u % dv u) (dv u)) (U6_info _ _ _) (by simp (decide := true) only [ev_eq, ev_ne, ev_const, put_size, hsz, e21, e11]) (fun w' hw' => range_below H9.out.2.1 (by have := H9.out.2.2.2.2; omega) hw')) ?_
            refine ChainL.step (.agg #[.int .u64 0, .int .u64 0, .int .u64 (z u % dv u), .int .u64 (dv u)]) (g_call rfl 36 _ rfl rfl #[.agg (U6 (z u / dv u) (z u % dv u) (dv u))] (by simp (decide := true) [ev_eq, ev_ne, ev_const, put_size, hsz]) (cf36 _) _ (fun w' _ => frac6 _ _ _ w')) ?_
            refine ChainL.step _ (g_index rfl 96 6 (.tmp 11) (.const (.int .i64 3)) rfl cb 0 3 (by simp (decide := true) only [ev_eq, ev_ne, ev_const, put_size, hsz, e21, e11]) rfl (idx96 _ _ _ (by omega))) ?_
            refine ChainL.step _ (g_loadT rfl 95 _ Try.underlying95 rfl (.tmp 152) rfl cb (0 + 3 * 6) (U6 (z 3 / dv 3) (z 3 % dv 3) (dv 3)) (U6_info _ _ _) (by simp (decide := true) only [ev_eq, ev_ne, ev_const, put_size, hsz, e21, e11]) (fun w' hw' => by rw [Nat.zero_add]; exact range_below (H9.out.1.1 3 (by omega)) (by have := H9.out.1.2; omega) hw')) ?_
            refine ChainL.step (.agg #[.int .u64 0, .int .u64 0, .int .u64 (z 3 % dv 3), .int .u64 (dv 3)]) (g_call rfl 36 _ rfl rfl #[.agg (U6 (z 3 / dv 3) (z 3 % dv 3) (dv 3))] (by simp (decide := true) [ev_eq, ev_ne, ev_const, put_size, hsz]) (cf36 _) _ (fun w' _ => frac6 _ _ _ w')) ?_
            refine ChainL.step _ (g_index rfl 96 6 (.tmp 11) (.const (.int .i64 4)) rfl cb 0 4 (by simp (decide := true) only [ev_eq, ev_ne, ev_const, put_size, hsz, e21, e11]) rfl (idx96 _ _ _ (by omega))) ?_
            refine ChainL.step _ (g_loadT rfl 95 _ Try.underlying95 rfl (.tmp 155) rfl cb (0 + 4 * 6) (U6 (z 4 / dv 4) (z 4 % dv 4) (dv 4)) (U6_info _ _ _) (by simp (decide := true) only [ev_eq, ev_ne, ev_const, put_size, hsz, e21, e11]) (fun w' hw' => by rw [Nat.zero_add]; exact range_below (H9.out.1.1 4 (by omega)) (by have := H9.out.1.2; omega) hw')) ?_
            refine ChainL.step (.agg #[.int .u64 0, .int .u64 0, .int .u64 (z 4 % dv 4), .int .u64 (dv 4)]) (g_call rfl 36 _ rfl rfl #[.agg (U6 (z 4 / dv 4) (z 4 % dv 4) (dv 4))] (by simp (decide := true) [ev_eq, ev_ne, ev_const, put_size, hsz]) (cf36 _) _ (fun w' _ => frac6 _ _ _ w')) ?_
            refine ChainL.step (.tuple #[.int .u64 (FN (z u % dv u) (dv u) (z 3 % dv 3) (dv 3) (z 4 % dv 4) (dv 4) / (dv u * dv 3 * dv 4)), .bool (decide (FN (z u % dv u) (dv u) (z 3 % dv 3) (dv 3) (z 4 % dv 4) (dv 4) % (dv u * dv 3 * dv 4) ≠ 0))]) (g_call rfl 35 _ rfl rfl #[.agg #[.int .u64 0, .int .u64 0, .int .u64 (z u % dv u), .int .u64 (dv u)], .agg #[.int .u64 0, .int .u64 0, .int .u64 (z 3 % dv 3), .int .u64 (dv 3)], .agg #[.int .u64 0, .int .u64 0, .int .u64 (z 4 % dv 4), .int .u64 (dv 4)]] (by simp (decide := true) [ev_eq, ev_ne, ev_const, put_size, hsz]) (cf35 _) _ (fun w' _ => fracE _ _ _ _ _ _ (HZ.out.2 u (by omega)).2.1 (HW.out.2.2.1 u (by omega)).1 (HZ.out.2 3 (by omega)).2.1 (HW.out.2.2.1 3 (by omega)).1 (HZ.out.2 4 (by omega)).2.1 (HW.out.2.2.1 4 (by omega)).1 (HZ.out.2 u (by omega)).2.2.1 (HZ.out.2 3 (by omega)).2.2.1 (HZ.out.2 4 (by omega)).2.2.1 w')) ?_
            refine ChainL.step (.tuple #[.int .u64 (FN (z u % dv u) (dv u) (z 3 % dv 3) (dv 3) (z 4 % dv 4) (dv 4) / (dv u * dv 3 * dv 4)), .bool (decide (FN (z u % dv u) (dv u) (z 3 % dv 3) (dv 3) (z 4 % dv 4) (dv 4) % (dv u * dv 3 * dv 4) ≠ 0))]) (g_move rfl (.tmp 158) rfl _ (by simp (decide := true) only [ev_eq, ev_ne, ev_const, put_size, hsz, e21, e11])) ?_
            refine ChainL.step (.int .u64 (FN (z u % dv u) (dv u) (z 3 % dv 3) (dv 3) (z 4 % dv 4) (dv 4) / (dv u * dv 3 * dv 4))) (g_extract rfl (.tmp 149) 0 rfl #[.int .u64 (FN (z u % dv u) (dv u) (z 3 % dv 3) (dv 3) (z 4 % dv 4) (dv 4) / (dv u * dv 3 * dv 4)), .bool (decide (FN (z u % dv u) (dv u) (z 3 % dv 3) (dv 3) (z 4 % dv 4) (dv 4) % (dv u * dv 3 * dv 4) ≠ 0))] _ (by simp (decide := true) only [ev_eq, ev_ne, ev_const, put_size, hsz, e21, e11]) rfl) ?_
            refine ChainL.step (.bool (decide (FN (z u % dv u) (dv u) (z 3 % dv 3) (dv 3) (z 4 % dv 4) (dv 4) % (dv u * dv 3 * dv 4) ≠ 0))) (g_extract rfl (.tmp 149) 1 rfl #[.int .u64 (FN (z u % dv u) (dv u) (z 3 % dv 3) (dv 3) (z 4 % dv 4) (dv 4) / (dv u * dv 3 * dv 4)), .bool (decide (FN (z u % dv u) (dv u) (z 3 % dv 3) (dv 3) (z 4 % dv 4) (dv 4) % (dv u * dv 3 * dv 4) ≠ 0))] _ (by simp (decide := true) only [ev_eq, ev_ne, ev_const, put_size, hsz, e21, e11]) rfl) ?_
            refine ChainL.step (.int .u64 (FN (z u % dv u) (dv u) (z 3 % dv 3) (dv 3) (z 4 % dv 4) (dv 4) / (dv u * dv 3 * dv 4))) (g_assign rfl (.tmp 159) rfl _ (by simp (decide := true) only [ev_eq, ev_ne, ev_const, put_size, hsz, e21, e11])) ?_
            refine ChainL.step (.bool (decide (FN (z u % dv u) (dv u) (z 3 % dv 3) (dv 3) (z 4 % dv 4) (dv 4) % (dv u * dv 3 * dv 4) ≠ 0))) (g_assign rfl (.tmp 160) rfl _ (by simp (decide := true) only [ev_eq, ev_ne, ev_const, put_size, hsz, e21, e11])) ?_
            refine ChainL.done ?_
            intro w10 hS
            rw [ha0]
            simp only [Act.put, List.setIfInBounds_toArray, List.set_cons_succ, List.set_cons_zero]
            obtain ⟨c, hc⟩ : ∃ c, c = FN (z u % dv u) (dv u) (z 3 % dv 3) (dv 3) (z 4 % dv 4) (dv 4) / (dv u * dv 3 * dv 4) := ⟨_, rfl⟩
            obtain ⟨fr, hfr⟩ : ∃ fr, fr = decide (FN (z u % dv u) (dv u) (z 3 % dv 3) (dv 3) (z 4 % dv 4) (dv 4) % (dv u * dv 3 * dv 4) ≠ 0) := ⟨_, rfl⟩
            rw [← hc, ← hfr]
            have HCF : Hid (c = FN (z u % dv u) (dv u) (z 3 % dv 3) (dv 3) (z 4 % dv 4) (dv 4) / (dv u * dv 3 * dv 4) ∧ fr = decide (FN (z u % dv u) (dv u) (z 3 % dv 3) (dv 3) (z 4 % dv 4) (dv 4) % (dv u * dv 3 * dv 4) ≠ 0) ∧ Word c) := by
              have h := FN_bound (HZ.out.2 u (by omega)).2.1.1 (HZ.out.2 3 (by omega)).2.1.1 (HZ.out.2 4 (by omega)).2.1.1 (HZ.out.2 u (by omega)).2.2.1 (HZ.out.2 3 (by omega)).2.2.1 (HZ.out.2 4 (by omega)).2.2.1
              rw [← hc] at h
              exact ⟨hc, hfr, by omega, by omega⟩
            have H10 : Hid (Below w.heap.size w w10 ∧ w10.rangeAt b24 0 (U4 s2).toList ∧ w10.there b24 0 4 ∧ b24 < w10.heap.size ∧ w.heap.size ≤ b24) := by
              obtain ⟨⟨a1, a2, a3, a4, a5⟩, a6, a7, a8, a9, a10⟩ := H9.out
              have hs := hS.size
              have hn := HN21.out
              exact ⟨a5.trans (hS.mono a5.size), range_below a7 a10 hS, there_below a8 a10 hS, by omega, by omega⟩
            clear hS hc hfr ha0 hsz e21 e11 a0 H9 W9
            go_wp2_with (refine wpList_load_mid rfl 93 (.tmp 24) rfl b24 0 rfl (U4 s2).toList _ H10.out.2.1 Try.underlying93 rfl (U4_info' _) ?_)
            try simp only [Array.toArray_toList]
            rw [U4_small HCF.out.2.2]
            refine (add4 _ _ HS2.out.2 (by have := HCF.out.2.2; exact ⟨this.1, by have := this.2; omega⟩) _).mono ?_
            rintro e w11 ⟨rfl, hb⟩
            obtain ⟨s3, hs3⟩ : ∃ s3, s3 = (s2 + c) % 115792089237316195423570985008687907853269984665640564039457584007913129639936 := ⟨_, rfl⟩
            obtain ⟨g3, hg3⟩ : ∃ g3, g3 = decide (s2 + c < 115792089237316195423570985008687907853269984665640564039457584007913129639936) := ⟨_, rfl⟩
            rw [U4_emod (s2 + c), ← hs3, ← hg3]
            have HS3 : Hid (s3 = (s2 + c) % 115792089237316195423570985008687907853269984665640564039457584007913129639936 ∧ Big s3) := ⟨hs3, by rw [hs3]; omega, by rw [hs3]; omega⟩
            have HG3 : Hid (g3 = decide (s2 + c < 115792089237316195423570985008687907853269984665640564039457584007913129639936)) := hg3
            have H11 : Hid (Below w.heap.size w w11 ∧ w11.there b24 0 (U4 s3).size ∧ b24 < w11.heap.size ∧ w.heap.size ≤ b24) := by
              obtain ⟨a1, a2, a3, a4, a5⟩ := H10.out
              have hs := hb.size
              exact ⟨a1.trans (hb.mono a1.size), by rw [U4_size]; exact there_below a3 a4 hb, by omega, a5⟩
            clear hb hs3 hg3 H10
            go_upto_region 28 with (refine wpList_store_mid rfl 93 (.tmp 24) (.tmp 166) rfl b24 0 (U4 s3) rfl rfl H11.out.2.1 (U4_info _) (U4_ones _) ?_)
            have H12 : Hid (Below w.heap.size w (w11.setCells b24 0 (U4 s3).toList) ∧ (w11.setCells b24 0 (U4 s3).toList).rangeAt b24 0 (U4 s3).toList ∧ b24 < (w11.setCells b24 0 (U4 s3).toList).heap.size) := by
              obtain ⟨a1, a2, a3, a4⟩ := H11.out
              exact ⟨below_setCells a4 _ _ _ a1, World.rangeAt_setCells_same _ _ _ _ (by rw [Array.length_toList]; exact a2), by rw [size_setCells]; exact a3⟩
            generalize w11.setCells b24 0 (U4 s3).toList = W12 at *
            clear H11
            obtain ⟨a3, a2, a1, a0', hw3, hw2, hw1, hw0, hU, hV⟩ : ∃ a3 a2 a1 a0 : Int, Word a3 ∧ Word a2 ∧ Word a1 ∧ Word a0 ∧ U4 s3 = #[.int .u64 a3, .int .u64 a2, .int .u64 a1, .int .u64 a0] ∧ V4 a3 a2 a1 a0 = s3 := ⟨s3 / 6277101735386680763835789423207666416102355444464034512896 % 18446744073709551616, s3 / 340282366920938463463374607431768211456 % 18446744073709551616, s3 / 18446744073709551616 % 18446744073709551616, s3 % 18446744073709551616, wmod _, wmod _, wmod _, wmod _, U4_def _, U4_val HS3.out.2⟩
            rw [hU] at H12
            have HV : Hid (Word a3 ∧ Word a2 ∧ Word a1 ∧ Word a0' ∧ V4 a3 a2 a1 a0' = s3) := ⟨hw3, hw2, hw1, hw0, hV⟩
            clear hw3 hw2 hw1 hw0 hU hV
            have HCL : Hid (∀ w', Below W12.heap.size W12 w' → w'.cell? ⟨b24, 0, none⟩ = some (.int .u64 a3) ∧ w'.cell? ⟨b24, 1, none⟩ = some (.int .u64 a2) ∧ w'.cell? ⟨b24, 2, none⟩ = some (.int .u64 a1) ∧ w'.cell? ⟨b24, 3, none⟩ = some (.int .u64 a0')) := fun w' hw' => by
              have h := range_below H12.out.2.1 H12.out.2.2 hw'
              have k0 := h 0 _ rfl
              have k1 := h 1 _ rfl
              have k2 := h 2 _ rfl
              have k3 := h 3 _ rfl
              rw [Nat.zero_add] at k0 k1 k2 k3
              exact ⟨k0, k1, k2, k3⟩
            obtain ⟨ff, hff⟩ : ∃ ff, decide (a3 = 0) = ff := ⟨_, rfl⟩
            have HFF : Hid (decide (a3 = 0) = ff) := hff
            clear hff
            go_wp2_with fail
            refine region_all73 (by kernel_rfl) ?_
            refine ChainL.frame ?_
            intro a0 ha0
            have hsz : a0.tmps.size = 204 := by rw [ha0]; rfl
            have e24 : a0.eval (.tmp 24) = .pointer (some ⟨b24, 0, none⟩) := by rw [ha0]; rfl
            refine ChainL.step _ (g_field rfl 93 1 1 (.tmp 24) rfl b24 0 (by simp (decide := true) only [ev_eq, ev_ne, ev_const, put_size, hsz, e24]) fld93_1) ?_
            refine ChainL.step _ (g_load rfl (.tmp 168) rfl ⟨b24, 0 + 1, none⟩ (.int .u64 a2) (by simp (decide := true) only [ev_eq, ev_ne, ev_const, put_size, hsz, e24]) (fun w' hw' => (HCL.out w' hw').2.1)) ?_
            refine ChainL.step _ (g_field rfl 93 0 0 (.tmp 24) rfl b24 0 (by simp (decide := true) only [ev_eq, ev_ne, ev_const, put_size, hsz, e24]) fld93_0) ?_
            refine ChainL.step _ (g_load rfl (.tmp 170) rfl ⟨b24, 0 + 0, none⟩ (.int .u64 a3) (by simp (decide := true) only [ev_eq, ev_ne, ev_const, put_size, hsz, e24]) (fun w' hw' => (HCL.out w' hw').1)) ?_
            refine ChainL.step _ (h_eql (wanted_none rfl) (.tmp 171) rfl a3 (by simp (decide := true) only [ev_eq, ev_ne, ev_const, put_size, hsz, e24]) ff HFF.out) ?_
            refine ChainL.step (.int .u64 a2) (g_assign rfl (.tmp 169) rfl _ (by simp (decide := true) only [ev_eq, ev_ne, ev_const, put_size, hsz, e24])) ?_
            refine ChainL.step (.bool ff) (g_assign rfl (.tmp 172) rfl _ (by simp (decide := true) only [ev_eq, ev_ne, ev_const, put_size, hsz, e24])) ?_
            refine ChainL.done ?_
            intro w13 hS
            rw [ha0]
            simp only [Act.put, List.setIfInBounds_toArray, List.set_cons_succ, List.set_cons_zero]
            have H13 : Hid (Below w.heap.size w w13) := H12.out.1.trans (hS.mono H12.out.1.size)
            have c2 := (HCL.out w13 hS).2.2.1
            have c3 := (HCL.out w13 hS).2.2.2
            have HRT : Hid (∀ (fee : Int) (ok' : Bool), ((a1 = 0 ∧ a0' = 0 ∧ fr = false) ∧ fee = a2 ∧ ok' = true) ∨ (¬ (a1 = 0 ∧ a0' = 0 ∧ fr = false) ∧ 0 ≤ fee ∧ ∃ k, a2 + 1 = V2 k fee ∧ 0 ≤ k ∧ fee < 18446744073709551616 ∧ (ok' = true ↔ k = 0)) → Right (nn rh rl A mu P F folded) dv fee (((g1 && g2) && g3) && (ff && ok'))) := by
              intro fee ok' h
              rw [← HZ.out.1]
              exact fee_fin (fun k hk => (HW.out.2.2.1 k hk).2) (fun k hk => (HZ.out.2 k hk).1) HT.out HS1.out.1 HS2.out.1 HS3.out.1 HCF.out.1 HCF.out.2.1 HG1.out HG2.out HG3.out HV.out.1 HV.out.2.1 HV.out.2.2.1 HV.out.2.2.2.1 HV.out.2.2.2.2 HFF.out h
            clear hS ha0 hsz e24 a0 H12 HCL W12 HS1 HS2 HS3 HG1 HG2 HG3 HCF HT HFF HB3 HN21
            by_cases z1 : a1 = 0
            · by_cases z0 : a0' = 0
              · cases fr with
                | true =>
                  go_wp2_with fail
                  refine (checkedAdd a2 1 HV.out.2.1 ⟨by decide, by decide⟩ _).mono ?_
                  rintro e w14 ⟨⟨kk, r, ok', rfl, hr1, hr2, hr3, hr4⟩, rfl⟩
                  have HRR : Hid (Word r ∧ Right (nn rh rl A mu P F folded) dv r (((g1 && g2) && g3) && (ff && ok'))) := ⟨hr1, HRT.out r ok' (Or.inr ⟨fun h => by have := h.2.2; simp at this, hr1.1, kk, hr2, hr3, hr1.2, hr4⟩)⟩
                  clear hr1 hr2 hr3 hr4 HRT
                  go_upto_region 32 with (fail)
                  refine region_plain ?_
                  refine ChainY.frame ?_
                  intro a0 ha0
                  have hsz : a0.tmps.size = 204 := by rw [ha0]; rfl
                  have e31 : a0.eval (.tmp 31) = .bool ff := by rw [ha0]; rfl
                  have e32 : a0.eval (.tmp 32) = .bool ok' := by rw [ha0]; rfl
                  refine ChainY.step (.bool ff) (y_move rfl (.tmp 31) rfl _ (by simp (decide := true) only [ev_eq, ev_ne, ev_const, put_size, hsz, e31, e32])) ?_
                  refine ChainY.step (.bool ff) (y_move rfl (.tmp 189) rfl _ (by simp (decide := true) only [ev_eq, ev_ne, ev_const, put_size, hsz, e31, e32])) ?_
                  refine ChainY.step _ (k_gmove (g := 1) (b0 := ff) rfl rfl rfl (by simp (decide := true) only [put_size, hsz]) (by simp (decide := true) only [ev_eq, ev_ne, ev_const, put_size, hsz, e31, e32]) (.tmp 32) rfl (.bool ok') (by simp (decide := true) only [ev_eq, ev_ne, ev_const, put_size, hsz, e31, e32])) ?_
                  refine ChainY.step _ (k_pickand rfl (.tmp 190) (.tmp 191) rfl ff ok' (by simp (decide := true) only [ev_eq, ev_ne, ev_const, put_size, hsz, e31, e32]) (by simp (decide := true) only [ev_eq, ev_ne, ev_const, put_size, hsz, e31, e32])) ?_
                  refine ChainY.step (.bool (ff && ok')) (y_assign rfl (.tmp 192) rfl _ (by simp (decide := true) only [ev_eq, ev_ne, ev_const, put_size, hsz, e31, e32])) ?_
                  refine ChainY.done ?_
                  rw [ha0]
                  simp only [Act.put, List.setIfInBounds_toArray, List.set_cons_succ, List.set_cons_zero]
                  clear ha0 hsz e31 e32 a0
                  go_upto_region 33 with (fail)
                  refine region_plain ?_
                  refine ChainY.frame ?_
                  intro a0 ha0
                  have hsz : a0.tmps.size = 204 := by rw [ha0]; rfl
                  have e30 : a0.eval (.tmp 30) = .int .u64 r := by rw [ha0]; rfl
                  have e25 : a0.eval (.tmp 25) = .bool g1 := by rw [ha0]; rfl
                  have e26 : a0.eval (.tmp 26) = .bool g2 := by rw [ha0]; rfl
                  have e29 : a0.eval (.tmp 29) = .bool g3 := by rw [ha0]; rfl
                  have e31 : a0.eval (.tmp 31) = .bool (ff && ok') := by rw [ha0]; rfl
                  refine ChainY.step (.int .u64 r) (y_move rfl (.tmp 30) rfl _ (by simp (decide := true) only [ev_eq, ev_ne, ev_const, put_size, hsz, e30, e25, e26, e29, e31])) ?_
                  refine ChainY.step (.bool g1) (y_move rfl (.tmp 25) rfl _ (by simp (decide := true) only [ev_eq, ev_ne, ev_const, put_size, hsz, e30, e25, e26, e29, e31])) ?_
                  refine ChainY.step (.bool g1) (y_move rfl (.tmp 194) rfl _ (by simp (decide := true) only [ev_eq, ev_ne, ev_const, put_size, hsz, e30, e25, e26, e29, e31])) ?_
                  refine ChainY.step _ (k_gmove (g := 2) (b0 := g1) rfl rfl rfl (by simp (decide := true) only [put_size, hsz]) (by simp (decide := true) only [ev_eq, ev_ne, ev_const, put_size, hsz, e30, e25, e26, e29, e31]) (.tmp 26) rfl (.bool g2) (by simp (decide := true) only [ev_eq, ev_ne, ev_const, put_size, hsz, e30, e25, e26, e29, e31])) ?_
                  refine ChainY.step _ (k_pickand rfl (.tmp 195) (.tmp 196) rfl g1 g2 (by simp (decide := true) only [ev_eq, ev_ne, ev_const, put_size, hsz, e30, e25, e26, e29, e31]) (by simp (decide := true) only [ev_eq, ev_ne, ev_const, put_size, hsz, e30, e25, e26, e29, e31])) ?_
                  refine ChainY.step (.bool (g1 && g2)) (y_move rfl (.tmp 197) rfl _ (by simp (decide := true) only [ev_eq, ev_ne, ev_const, put_size, hsz, e30, e25, e26, e29, e31])) ?_
                  refine ChainY.step _ (k_gmove (g := 5) (b0 := g1 && g2) rfl rfl rfl (by simp (decide := true) only [put_size, hsz]) (by simp (decide := true) only [ev_eq, ev_ne, ev_const, put_size, hsz, e30, e25, e26, e29, e31]) (.tmp 29) rfl (.bool g3) (by simp (decide := true) only [ev_eq, ev_ne, ev_const, put_size, hsz, e30, e25, e26, e29, e31])) ?_
                  refine ChainY.step _ (k_pickand rfl (.tmp 198) (.tmp 199) rfl (g1 && g2) g3 (by simp (decide := true) only [ev_eq, ev_ne, ev_const, put_size, hsz, e30, e25, e26, e29, e31]) (by simp (decide := true) only [ev_eq, ev_ne, ev_const, put_size, hsz, e30, e25, e26, e29, e31])) ?_
                  refine ChainY.step (.bool ((g1 && g2) && g3)) (y_move rfl (.tmp 200) rfl _ (by simp (decide := true) only [ev_eq, ev_ne, ev_const, put_size, hsz, e30, e25, e26, e29, e31])) ?_
                  refine ChainY.step _ (k_gmove (g := 8) (b0 := (g1 && g2) && g3) rfl rfl rfl (by simp (decide := true) only [put_size, hsz]) (by simp (decide := true) only [ev_eq, ev_ne, ev_const, put_size, hsz, e30, e25, e26, e29, e31]) (.tmp 31) rfl (.bool (ff && ok')) (by simp (decide := true) only [ev_eq, ev_ne, ev_const, put_size, hsz, e30, e25, e26, e29, e31])) ?_
                  refine ChainY.step _ (k_pickand rfl (.tmp 201) (.tmp 202) rfl ((g1 && g2) && g3) (ff && ok') (by simp (decide := true) only [ev_eq, ev_ne, ev_const, put_size, hsz, e30, e25, e26, e29, e31]) (by simp (decide := true) only [ev_eq, ev_ne, ev_const, put_size, hsz, e30, e25, e26, e29, e31])) ?_
                  refine ChainY.step (.int .u64 r) (y_assign rfl (.tmp 193) rfl _ (by simp (decide := true) only [ev_eq, ev_ne, ev_const, put_size, hsz, e30, e25, e26, e29, e31])) ?_
                  refine ChainY.step (.bool (((g1 && g2) && g3) && (ff && ok'))) (y_assign rfl (.tmp 203) rfl _ (by simp (decide := true) only [ev_eq, ev_ne, ev_const, put_size, hsz, e30, e25, e26, e29, e31])) ?_
                  refine ChainY.done ?_
                  rw [ha0]
                  simp only [Act.put, List.setIfInBounds_toArray, List.set_cons_succ, List.set_cons_zero]
                  clear ha0 hsz e30 e25 e26 e29 e31 a0
                  generalize hfin : (((g1 && g2) && g3) && (ff && ok')) = okf at *
                  clear hfin
                  go_wp2_with fail
                  go_returns
                  exact ⟨⟨r, _, rfl, HRR.out.1, HRR.out.2⟩, H13.out⟩
                | false =>
                  have HRR : Hid (Right (nn rh rl A mu P F folded) dv a2 (((g1 && g2) && g3) && (ff))) := by
                    have h := HRT.out a2 true (Or.inl ⟨⟨z1, z0, rfl⟩, rfl, rfl⟩)
                    rw [Bool.and_true] at h
                    exact h
                  clear HRT
                  go_upto_region 33 with (fail)
                  refine region_plain ?_
                  refine ChainY.frame ?_
                  intro a0 ha0
                  have hsz : a0.tmps.size = 204 := by rw [ha0]; rfl
                  have e30 : a0.eval (.tmp 30) = .int .u64 a2 := by rw [ha0]; rfl
                  have e25 : a0.eval (.tmp 25) = .bool g1 := by rw [ha0]; rfl
                  have e26 : a0.eval (.tmp 26) = .bool g2 := by rw [ha0]; rfl
                  have e29 : a0.eval (.tmp 29) = .bool g3 := by rw [ha0]; rfl
                  have e31 : a0.eval (.tmp 31) = .bool (ff) := by rw [ha0]; rfl
                  refine ChainY.step (.int .u64 a2) (y_move rfl (.tmp 30) rfl _ (by simp (decide := true) only [ev_eq, ev_ne, ev_const, put_size, hsz, e30, e25, e26, e29, e31])) ?_
                  refine ChainY.step (.bool g1) (y_move rfl (.tmp 25) rfl _ (by simp (decide := true) only [ev_eq, ev_ne, ev_const, put_size, hsz, e30, e25, e26, e29, e31])) ?_
                  refine ChainY.step (.bool g1) (y_move rfl (.tmp 194) rfl _ (by simp (decide := true) only [ev_eq, ev_ne, ev_const, put_size, hsz, e30, e25, e26, e29, e31])) ?_
                  refine ChainY.step _ (k_gmove (g := 2) (b0 := g1) rfl rfl rfl (by simp (decide := true) only [put_size, hsz]) (by simp (decide := true) only [ev_eq, ev_ne, ev_const, put_size, hsz, e30, e25, e26, e29, e31]) (.tmp 26) rfl (.bool g2) (by simp (decide := true) only [ev_eq, ev_ne, ev_const, put_size, hsz, e30, e25, e26, e29, e31])) ?_
                  refine ChainY.step _ (k_pickand rfl (.tmp 195) (.tmp 196) rfl g1 g2 (by simp (decide := true) only [ev_eq, ev_ne, ev_const, put_size, hsz, e30, e25, e26, e29, e31]) (by simp (decide := true) only [ev_eq, ev_ne, ev_const, put_size, hsz, e30, e25, e26, e29, e31])) ?_
                  refine ChainY.step (.bool (g1 && g2)) (y_move rfl (.tmp 197) rfl _ (by simp (decide := true) only [ev_eq, ev_ne, ev_const, put_size, hsz, e30, e25, e26, e29, e31])) ?_
                  refine ChainY.step _ (k_gmove (g := 5) (b0 := g1 && g2) rfl rfl rfl (by simp (decide := true) only [put_size, hsz]) (by simp (decide := true) only [ev_eq, ev_ne, ev_const, put_size, hsz, e30, e25, e26, e29, e31]) (.tmp 29) rfl (.bool g3) (by simp (decide := true) only [ev_eq, ev_ne, ev_const, put_size, hsz, e30, e25, e26, e29, e31])) ?_
                  refine ChainY.step _ (k_pickand rfl (.tmp 198) (.tmp 199) rfl (g1 && g2) g3 (by simp (decide := true) only [ev_eq, ev_ne, ev_const, put_size, hsz, e30, e25, e26, e29, e31]) (by simp (decide := true) only [ev_eq, ev_ne, ev_const, put_size, hsz, e30, e25, e26, e29, e31])) ?_
                  refine ChainY.step (.bool ((g1 && g2) && g3)) (y_move rfl (.tmp 200) rfl _ (by simp (decide := true) only [ev_eq, ev_ne, ev_const, put_size, hsz, e30, e25, e26, e29, e31])) ?_
                  refine ChainY.step _ (k_gmove (g := 8) (b0 := (g1 && g2) && g3) rfl rfl rfl (by simp (decide := true) only [put_size, hsz]) (by simp (decide := true) only [ev_eq, ev_ne, ev_const, put_size, hsz, e30, e25, e26, e29, e31]) (.tmp 31) rfl (.bool (ff)) (by simp (decide := true) only [ev_eq, ev_ne, ev_const, put_size, hsz, e30, e25, e26, e29, e31])) ?_
                  refine ChainY.step _ (k_pickand rfl (.tmp 201) (.tmp 202) rfl ((g1 && g2) && g3) (ff) (by simp (decide := true) only [ev_eq, ev_ne, ev_const, put_size, hsz, e30, e25, e26, e29, e31]) (by simp (decide := true) only [ev_eq, ev_ne, ev_const, put_size, hsz, e30, e25, e26, e29, e31])) ?_
                  refine ChainY.step (.int .u64 a2) (y_assign rfl (.tmp 193) rfl _ (by simp (decide := true) only [ev_eq, ev_ne, ev_const, put_size, hsz, e30, e25, e26, e29, e31])) ?_
                  refine ChainY.step (.bool (((g1 && g2) && g3) && (ff))) (y_assign rfl (.tmp 203) rfl _ (by simp (decide := true) only [ev_eq, ev_ne, ev_const, put_size, hsz, e30, e25, e26, e29, e31])) ?_
                  refine ChainY.done ?_
                  rw [ha0]
                  simp only [Act.put, List.setIfInBounds_toArray, List.set_cons_succ, List.set_cons_zero]
                  clear ha0 hsz e30 e25 e26 e29 e31 a0
                  generalize hfin : (((g1 && g2) && g3) && (ff)) = okf at *
                  clear hfin
                  go_wp2_with fail
                  go_returns
                  exact ⟨⟨a2, _, rfl, HV.out.2.1, HRR.out⟩, H13.out⟩
              · go_wp2_with fail
                refine (checkedAdd a2 1 HV.out.2.1 ⟨by decide, by decide⟩ _).mono ?_
                rintro e w14 ⟨⟨kk, r, ok', rfl, hr1, hr2, hr3, hr4⟩, rfl⟩
                have HRR : Hid (Word r ∧ Right (nn rh rl A mu P F folded) dv r (((g1 && g2) && g3) && (ff && ok'))) := ⟨hr1, HRT.out r ok' (Or.inr ⟨fun h => z0 h.2.1, hr1.1, kk, hr2, hr3, hr1.2, hr4⟩)⟩
                clear hr1 hr2 hr3 hr4 HRT
                go_upto_region 32 with (fail)
                refine region_plain ?_
                refine ChainY.frame ?_
                intro a0 ha0
                have hsz : a0.tmps.size = 204 := by rw [ha0]; rfl
                have e31 : a0.eval (.tmp 31) = .bool ff := by rw [ha0]; rfl
                have e32 : a0.eval (.tmp 32) = .bool ok' := by rw [ha0]; rfl
                refine ChainY.step (.bool ff) (y_move rfl (.tmp 31) rfl _ (by simp (decide := true) only [ev_eq, ev_ne, ev_const, put_size, hsz, e31, e32])) ?_
                refine ChainY.step (.bool ff) (y_move rfl (.tmp 189) rfl _ (by simp (decide := true) only [ev_eq, ev_ne, ev_const, put_size, hsz, e31, e32])) ?_
                refine ChainY.step _ (k_gmove (g := 1) (b0 := ff) rfl rfl rfl (by simp (decide := true) only [put_size, hsz]) (by simp (decide := true) only [ev_eq, ev_ne, ev_const, put_size, hsz, e31, e32]) (.tmp 32) rfl (.bool ok') (by simp (decide := true) only [ev_eq, ev_ne, ev_const, put_size, hsz, e31, e32])) ?_
                refine ChainY.step _ (k_pickand rfl (.tmp 190) (.tmp 191) rfl ff ok' (by simp (decide := true) only [ev_eq, ev_ne, ev_const, put_size, hsz, e31, e32]) (by simp (decide := true) only [ev_eq, ev_ne, ev_const, put_size, hsz, e31, e32])) ?_
                refine ChainY.step (.bool (ff && ok')) (y_assign rfl (.tmp 192) rfl _ (by simp (decide := true) only [ev_eq, ev_ne, ev_const, put_size, hsz, e31, e32])) ?_
                refine ChainY.done ?_
                rw [ha0]
                simp only [Act.put, List.setIfInBounds_toArray, List.set_cons_succ, List.set_cons_zero]
                clear ha0 hsz e31 e32 a0
                go_upto_region 33 with (fail)
                refine region_plain ?_
                refine ChainY.frame ?_
                intro a0 ha0
                have hsz : a0.tmps.size = 204 := by rw [ha0]; rfl
                have e30 : a0.eval (.tmp 30) = .int .u64 r := by rw [ha0]; rfl
                have e25 : a0.eval (.tmp 25) = .bool g1 := by rw [ha0]; rfl
                have e26 : a0.eval (.tmp 26) = .bool g2 := by rw [ha0]; rfl
                have e29 : a0.eval (.tmp 29) = .bool g3 := by rw [ha0]; rfl
                have e31 : a0.eval (.tmp 31) = .bool (ff && ok') := by rw [ha0]; rfl
                refine ChainY.step (.int .u64 r) (y_move rfl (.tmp 30) rfl _ (by simp (decide := true) only [ev_eq, ev_ne, ev_const, put_size, hsz, e30, e25, e26, e29, e31])) ?_
                refine ChainY.step (.bool g1) (y_move rfl (.tmp 25) rfl _ (by simp (decide := true) only [ev_eq, ev_ne, ev_const, put_size, hsz, e30, e25, e26, e29, e31])) ?_
                refine ChainY.step (.bool g1) (y_move rfl (.tmp 194) rfl _ (by simp (decide := true) only [ev_eq, ev_ne, ev_const, put_size, hsz, e30, e25, e26, e29, e31])) ?_
                refine ChainY.step _ (k_gmove (g := 2) (b0 := g1) rfl rfl rfl (by simp (decide := true) only [put_size, hsz]) (by simp (decide := true) only [ev_eq, ev_ne, ev_const, put_size, hsz, e30, e25, e26, e29, e31]) (.tmp 26) rfl (.bool g2) (by simp (decide := true) only [ev_eq, ev_ne, ev_const, put_size, hsz, e30, e25, e26, e29, e31])) ?_
                refine ChainY.step _ (k_pickand rfl (.tmp 195) (.tmp 196) rfl g1 g2 (by simp (decide := true) only [ev_eq, ev_ne, ev_const, put_size, hsz, e30, e25, e26, e29, e31]) (by simp (decide := true) only [ev_eq, ev_ne, ev_const, put_size, hsz, e30, e25, e26, e29, e31])) ?_
                refine ChainY.step (.bool (g1 && g2)) (y_move rfl (.tmp 197) rfl _ (by simp (decide := true) only [ev_eq, ev_ne, ev_const, put_size, hsz, e30, e25, e26, e29, e31])) ?_
                refine ChainY.step _ (k_gmove (g := 5) (b0 := g1 && g2) rfl rfl rfl (by simp (decide := true) only [put_size, hsz]) (by simp (decide := true) only [ev_eq, ev_ne, ev_const, put_size, hsz, e30, e25, e26, e29, e31]) (.tmp 29) rfl (.bool g3) (by simp (decide := true) only [ev_eq, ev_ne, ev_const, put_size, hsz, e30, e25, e26, e29, e31])) ?_
                refine ChainY.step _ (k_pickand rfl (.tmp 198) (.tmp 199) rfl (g1 && g2) g3 (by simp (decide := true) only [ev_eq, ev_ne, ev_const, put_size, hsz, e30, e25, e26, e29, e31]) (by simp (decide := true) only [ev_eq, ev_ne, ev_const, put_size, hsz, e30, e25, e26, e29, e31])) ?_
                refine ChainY.step (.bool ((g1 && g2) && g3)) (y_move rfl (.tmp 200) rfl _ (by simp (decide := true) only [ev_eq, ev_ne, ev_const, put_size, hsz, e30, e25, e26, e29, e31])) ?_
                refine ChainY.step _ (k_gmove (g := 8) (b0 := (g1 && g2) && g3) rfl rfl rfl (by simp (decide := true) only [put_size, hsz]) (by simp (decide := true) only [ev_eq, ev_ne, ev_const, put_size, hsz, e30, e25, e26, e29, e31]) (.tmp 31) rfl (.bool (ff && ok')) (by simp (decide := true) only [ev_eq, ev_ne, ev_const, put_size, hsz, e30, e25, e26, e29, e31])) ?_
                refine ChainY.step _ (k_pickand rfl (.tmp 201) (.tmp 202) rfl ((g1 && g2) && g3) (ff && ok') (by simp (decide := true) only [ev_eq, ev_ne, ev_const, put_size, hsz, e30, e25, e26, e29, e31]) (by simp (decide := true) only [ev_eq, ev_ne, ev_const, put_size, hsz, e30, e25, e26, e29, e31])) ?_
                refine ChainY.step (.int .u64 r) (y_assign rfl (.tmp 193) rfl _ (by simp (decide := true) only [ev_eq, ev_ne, ev_const, put_size, hsz, e30, e25, e26, e29, e31])) ?_
                refine ChainY.step (.bool (((g1 && g2) && g3) && (ff && ok'))) (y_assign rfl (.tmp 203) rfl _ (by simp (decide := true) only [ev_eq, ev_ne, ev_const, put_size, hsz, e30, e25, e26, e29, e31])) ?_
                refine ChainY.done ?_
                rw [ha0]
                simp only [Act.put, List.setIfInBounds_toArray, List.set_cons_succ, List.set_cons_zero]
                clear ha0 hsz e30 e25 e26 e29 e31 a0
                generalize hfin : (((g1 && g2) && g3) && (ff && ok')) = okf at *
                clear hfin
                go_wp2_with fail
                go_returns
                exact ⟨⟨r, _, rfl, HRR.out.1, HRR.out.2⟩, H13.out⟩
            · go_wp2_with fail
              refine (checkedAdd a2 1 HV.out.2.1 ⟨by decide, by decide⟩ _).mono ?_
              rintro e w14 ⟨⟨kk, r, ok', rfl, hr1, hr2, hr3, hr4⟩, rfl⟩
              have HRR : Hid (Word r ∧ Right (nn rh rl A mu P F folded) dv r (((g1 && g2) && g3) && (ff && ok'))) := ⟨hr1, HRT.out r ok' (Or.inr ⟨fun h => z1 h.1, hr1.1, kk, hr2, hr3, hr1.2, hr4⟩)⟩
              clear hr1 hr2 hr3 hr4 HRT
              go_upto_region 32 with (fail)
              refine region_plain ?_
              refine ChainY.frame ?_
              intro a0 ha0
              have hsz : a0.tmps.size = 204 := by rw [ha0]; rfl
              have e31 : a0.eval (.tmp 31) = .bool ff := by rw [ha0]; rfl
              have e32 : a0.eval (.tmp 32) = .bool ok' := by rw [ha0]; rfl
              refine ChainY.step (.bool ff) (y_move rfl (.tmp 31) rfl _ (by simp (decide := true) only [ev_eq, ev_ne, ev_const, put_size, hsz, e31, e32])) ?_
              refine ChainY.step (.bool ff) (y_move rfl (.tmp 189) rfl _ (by simp (decide := true) only [ev_eq, ev_ne, ev_const, put_size, hsz, e31, e32])) ?_
              refine ChainY.step _ (k_gmove (g := 1) (b0 := ff) rfl rfl rfl (by simp (decide := true) only [put_size, hsz]) (by simp (decide := true) only [ev_eq, ev_ne, ev_const, put_size, hsz, e31, e32]) (.tmp 32) rfl (.bool ok') (by simp (decide := true) only [ev_eq, ev_ne, ev_const, put_size, hsz, e31, e32])) ?_
              refine ChainY.step _ (k_pickand rfl (.tmp 190) (.tmp 191) rfl ff ok' (by simp (decide := true) only [ev_eq, ev_ne, ev_const, put_size, hsz, e31, e32]) (by simp (decide := true) only [ev_eq, ev_ne, ev_const, put_size, hsz, e31, e32])) ?_
              refine ChainY.step (.bool (ff && ok')) (y_assign rfl (.tmp 192) rfl _ (by simp (decide := true) only [ev_eq, ev_ne, ev_const, put_size, hsz, e31, e32])) ?_
              refine ChainY.done ?_
              rw [ha0]
              simp only [Act.put, List.setIfInBounds_toArray, List.set_cons_succ, List.set_cons_zero]
              clear ha0 hsz e31 e32 a0
              go_upto_region 33 with (fail)
              refine region_plain ?_
              refine ChainY.frame ?_
              intro a0 ha0
              have hsz : a0.tmps.size = 204 := by rw [ha0]; rfl
              have e30 : a0.eval (.tmp 30) = .int .u64 r := by rw [ha0]; rfl
              have e25 : a0.eval (.tmp 25) = .bool g1 := by rw [ha0]; rfl
              have e26 : a0.eval (.tmp 26) = .bool g2 := by rw [ha0]; rfl
              have e29 : a0.eval (.tmp 29) = .bool g3 := by rw [ha0]; rfl
              have e31 : a0.eval (.tmp 31) = .bool (ff && ok') := by rw [ha0]; rfl
              refine ChainY.step (.int .u64 r) (y_move rfl (.tmp 30) rfl _ (by simp (decide := true) only [ev_eq, ev_ne, ev_const, put_size, hsz, e30, e25, e26, e29, e31])) ?_
              refine ChainY.step (.bool g1) (y_move rfl (.tmp 25) rfl _ (by simp (decide := true) only [ev_eq, ev_ne, ev_const, put_size, hsz, e30, e25, e26, e29, e31])) ?_
              refine ChainY.step (.bool g1) (y_move rfl (.tmp 194) rfl _ (by simp (decide := true) only [ev_eq, ev_ne, ev_const, put_size, hsz, e30, e25, e26, e29, e31])) ?_
              refine ChainY.step _ (k_gmove (g := 2) (b0 := g1) rfl rfl rfl (by simp (decide := true) only [put_size, hsz]) (by simp (decide := true) only [ev_eq, ev_ne, ev_const, put_size, hsz, e30, e25, e26, e29, e31]) (.tmp 26) rfl (.bool g2) (by simp (decide := true) only [ev_eq, ev_ne, ev_const, put_size, hsz, e30, e25, e26, e29, e31])) ?_
              refine ChainY.step _ (k_pickand rfl (.tmp 195) (.tmp 196) rfl g1 g2 (by simp (decide := true) only [ev_eq, ev_ne, ev_const, put_size, hsz, e30, e25, e26, e29, e31]) (by simp (decide := true) only [ev_eq, ev_ne, ev_const, put_size, hsz, e30, e25, e26, e29, e31])) ?_
              refine ChainY.step (.bool (g1 && g2)) (y_move rfl (.tmp 197) rfl _ (by simp (decide := true) only [ev_eq, ev_ne, ev_const, put_size, hsz, e30, e25, e26, e29, e31])) ?_
              refine ChainY.step _ (k_gmove (g := 5) (b0 := g1 && g2) rfl rfl rfl (by simp (decide := true) only [put_size, hsz]) (by simp (decide := true) only [ev_eq, ev_ne, ev_const, put_size, hsz, e30, e25, e26, e29, e31]) (.tmp 29) rfl (.bool g3) (by simp (decide := true) only [ev_eq, ev_ne, ev_const, put_size, hsz, e30, e25, e26, e29, e31])) ?_
              refine ChainY.step _ (k_pickand rfl (.tmp 198) (.tmp 199) rfl (g1 && g2) g3 (by simp (decide := true) only [ev_eq, ev_ne, ev_const, put_size, hsz, e30, e25, e26, e29, e31]) (by simp (decide := true) only [ev_eq, ev_ne, ev_const, put_size, hsz, e30, e25, e26, e29, e31])) ?_
              refine ChainY.step (.bool ((g1 && g2) && g3)) (y_move rfl (.tmp 200) rfl _ (by simp (decide := true) only [ev_eq, ev_ne, ev_const, put_size, hsz, e30, e25, e26, e29, e31])) ?_
              refine ChainY.step _ (k_gmove (g := 8) (b0 := (g1 && g2) && g3) rfl rfl rfl (by simp (decide := true) only [put_size, hsz]) (by simp (decide := true) only [ev_eq, ev_ne, ev_const, put_size, hsz, e30, e25, e26, e29, e31]) (.tmp 31) rfl (.bool (ff && ok')) (by simp (decide := true) only [ev_eq, ev_ne, ev_const, put_size, hsz, e30, e25, e26, e29, e31])) ?_
              refine ChainY.step _ (k_pickand rfl (.tmp 201) (.tmp 202) rfl ((g1 && g2) && g3) (ff && ok') (by simp (decide := true) only [ev_eq, ev_ne, ev_const, put_size, hsz, e30, e25, e26, e29, e31]) (by simp (decide := true) only [ev_eq, ev_ne, ev_const, put_size, hsz, e30, e25, e26, e29, e31])) ?_
              refine ChainY.step (.int .u64 r) (y_assign rfl (.tmp 193) rfl _ (by simp (decide := true) only [ev_eq, ev_ne, ev_const, put_size, hsz, e30, e25, e26, e29, e31])) ?_
              refine ChainY.step (.bool (((g1 && g2) && g3) && (ff && ok'))) (y_assign rfl (.tmp 203) rfl _ (by simp (decide := true) only [ev_eq, ev_ne, ev_const, put_size, hsz, e30, e25, e26, e29, e31])) ?_
              refine ChainY.done ?_
              rw [ha0]
              simp only [Act.put, List.setIfInBounds_toArray, List.set_cons_succ, List.set_cons_zero]
              clear ha0 hsz e30 e25 e26 e29 e31 a0
              generalize hfin : (((g1 && g2) && g3) && (ff && ok')) = okf at *
              clear hfin
              go_wp2_with fail
              go_returns
              exact ⟨⟨r, _, rfl, HRR.out.1, HRR.out.2⟩, H13.out⟩
end Go.Proofs.Qxb6616476a
