import Derived.Test.Qxb6616476aLaw3
namespace Go.Proofs.Qxb6616476a
open Go.RowKit Go.Lib
set_option linter.unusedSimpArgs false

theorem R5.below {w w' : World} {b : Nat} {f : Nat → Int} (h : R5 w b f) (hb : Below w.heap.size w w') : R5 w' b f := World.rowIs.of_block h (hb.block _ (World.rowIs.lt h))
theorem R5.lt {w : World} {b : Nat} {f : Nat → Int} (h : R5 w b f) : b < w.heap.size := World.rowIs.lt h
theorem R5.eq {w : World} {b : Nat} {f g : Nat → Int} (h : R5 w b f) (e : ∀ i, i < 5 → f i = g i) : R5 w b g := World.rowIs.congr h (fun i hi => by rw [e i hi])
theorem scale_ok2 {l mu dv : Nat → Nat} {A : Nat → Int} {f : Nat} {folded : Bool} (hs : ∀ k, k < 5 → IsScale f (l k) (mu k) (dv k) folded ∧ mu k < 18446744073709551616 ∧ dv k < 18446744073709551616) (hA : ∀ i, Word (A i)) (hl : ∀ i, i < 5 → l i < 18446744073709551616) (hAl : ∀ i, i < 5 → A i ≤ l i) : (∀ i, i < 5 → Word (A i) ∧ Word (A i * (mu i : Int))) ∧ (∀ i, i < 5 → Word (dv i : Int) ∧ 0 < (dv i : Int)) := by
  have h := scale_ok (l := fun i => if i < 5 then l i else 0) (mu := mu) (dv := dv) (A := A) (f := f) (folded := folded) (fun k hk => by simp only [if_pos hk]; exact hs k hk) hA (fun i => by
    by_cases e : i < 5
    · simp only [if_pos e]; exact hl i e
    · simp only [if_neg e]; omega) (fun i hi => by simp only [if_pos hi]; exact hAl i hi)
  exact h
/-- both schedules give one answer -/
theorem same_answer {rh rl A : Nat → Int} {l : Nat → Nat} {P : Int} {f kk : Nat} (hk : 0 < kk) {fee sfee : Int} {ok sok : Bool} (hl : ∀ i, i < 5 → 0 < l i) (w1 : Word fee) (w2 : Word sfee)
    (h1 : Right (NN rh rl A P (f : Int)) (fun i => (l i : Int)) fee ok) (h2 : Right (NN rh rl A P ((f * kk : Nat) : Int)) (fun i => ((l i * kk : Nat) : Int)) sfee sok) : ok = sok ∧ (ok = true → fee = sfee) := by
  have h3 : Right (NN rh rl A P (f : Int)) (fun i => (l i : Int)) sfee sok := by
    refine right_unscale (g := fun _ => (kk : Int)) (fun _ => by omega) (right_congr (fun k _ => ?_) (fun k _ => ?_) h2)
    · show NN rh rl A P ((f * kk : Nat) : Int) k = (kk : Int) * NN rh rl A P (f : Int) k
      unfold NN
      rw [Int.natCast_mul]
      ac_rfl
    · show ((l k * kk : Nat) : Int) = (kk : Int) * (l k : Int)
      rw [Int.natCast_mul, Int.mul_comm]
  obtain ⟨u, ht, hr⟩ := h1
  have hd : ∀ k, k < 5 → 0 < (fun i => (l i : Int)) k := fun k hk => by have := hl k hk; show 0 < (l k : Int); omega
  have hr2 := h3.at hd ht
  exact RightAt.unique (DD_pos hd ht.1) ⟨w1.1, w1.2⟩ ⟨w2.1, w2.2⟩ hr hr2

set_option maxRecDepth 100000 in
set_option maxHeartbeats 4000000 in
theorem law4 (rh rl A : Nat → Int) (l : Nat → Nat) (ph pl : Int) (f kk : Nat) (hr : ∀ i, Word (rh i) ∧ Word (rl i)) (hA : ∀ i, Word (A i)) (hl : ∀ i, l i < 18446744073709551616) (hp : Word ph ∧ Word pl) (hf : f < 18446744073709551616) (hkk : kk < 18446744073709551616) (w : World) :
    Calls Try.prog 4 #[.agg #[.int .u64 (rh 0), .int .u64 (rl 0), .int .u64 (rh 1), .int .u64 (rl 1), .int .u64 (rh 2), .int .u64 (rl 2), .int .u64 (rh 3), .int .u64 (rl 3)], .agg #[.int .u64 ph, .int .u64 pl], .agg #[.int .u64 (A 0), .int .u64 (A 1), .int .u64 (A 2), .int .u64 (A 3), .int .u64 (A 4)], .agg #[.int .u64 (l 0 : Nat), .int .u64 (l 1 : Nat), .int .u64 (l 2 : Nat), .int .u64 (l 3 : Nat), .int .u64 (l 4 : Nat)], .int .u64 f, .int .u64 kk] w fun e w' => e = .returned (.bool true) ∧ Below w.heap.size w w' := by
  have HW : Hid ((∀ i, Word (rh i) ∧ Word (rl i)) ∧ (∀ i, Word (A i)) ∧ (∀ i, l i < 18446744073709551616) ∧ (Word ph ∧ Word pl) ∧ f < 18446744073709551616 ∧ kk < 18446744073709551616) := ⟨hr, hA, hl, hp, hf, hkk⟩
  clear hr hA hl hp hf hkk
  have HB : Hid (Below w.heap.size w ((((w.alloc (.cells #[.int .u64 (rh 0), .int .u64 (rl 0), .int .u64 (rh 1), .int .u64 (rl 1), .int .u64 (rh 2), .int .u64 (rl 2), .int .u64 (rh 3), .int .u64 (rl 3)] 24)).alloc (.cells #[.int .u64 ph, .int .u64 pl] 23)).alloc (.cells #[.int .u64 (A 0), .int .u64 (A 1), .int .u64 (A 2), .int .u64 (A 3), .int .u64 (A 4)] 25)).alloc (.cells #[.int .u64 (l 0 : Nat), .int .u64 (l 1 : Nat), .int .u64 (l 2 : Nat), .int .u64 (l 3 : Nat), .int .u64 (l 4 : Nat)] 25)) ∧ Blk ((((w.alloc (.cells #[.int .u64 (rh 0), .int .u64 (rl 0), .int .u64 (rh 1), .int .u64 (rl 1), .int .u64 (rh 2), .int .u64 (rl 2), .int .u64 (rh 3), .int .u64 (rl 3)] 24)).alloc (.cells #[.int .u64 ph, .int .u64 pl] 23)).alloc (.cells #[.int .u64 (A 0), .int .u64 (A 1), .int .u64 (A 2), .int .u64 (A 3), .int .u64 (A 4)] 25)).alloc (.cells #[.int .u64 (l 0 : Nat), .int .u64 (l 1 : Nat), .int .u64 (l 2 : Nat), .int .u64 (l 3 : Nat), .int .u64 (l 4 : Nat)] 25)) w.heap.size #[.int .u64 (rh 0), .int .u64 (rl 0), .int .u64 (rh 1), .int .u64 (rl 1), .int .u64 (rh 2), .int .u64 (rl 2), .int .u64 (rh 3), .int .u64 (rl 3)] 24 ∧ Blk ((((w.alloc (.cells #[.int .u64 (rh 0), .int .u64 (rl 0), .int .u64 (rh 1), .int .u64 (rl 1), .int .u64 (rh 2), .int .u64 (rl 2), .int .u64 (rh 3), .int .u64 (rl 3)] 24)).alloc (.cells #[.int .u64 ph, .int .u64 pl] 23)).alloc (.cells #[.int .u64 (A 0), .int .u64 (A 1), .int .u64 (A 2), .int .u64 (A 3), .int .u64 (A 4)] 25)).alloc (.cells #[.int .u64 (l 0 : Nat), .int .u64 (l 1 : Nat), .int .u64 (l 2 : Nat), .int .u64 (l 3 : Nat), .int .u64 (l 4 : Nat)] 25)) (w.heap.size + 1) #[.int .u64 ph, .int .u64 pl] 23 ∧ Blk ((((w.alloc (.cells #[.int .u64 (rh 0), .int .u64 (rl 0), .int .u64 (rh 1), .int .u64 (rl 1), .int .u64 (rh 2), .int .u64 (rl 2), .int .u64 (rh 3), .int .u64 (rl 3)] 24)).alloc (.cells #[.int .u64 ph, .int .u64 pl] 23)).alloc (.cells #[.int .u64 (A 0), .int .u64 (A 1), .int .u64 (A 2), .int .u64 (A 3), .int .u64 (A 4)] 25)).alloc (.cells #[.int .u64 (l 0 : Nat), .int .u64 (l 1 : Nat), .int .u64 (l 2 : Nat), .int .u64 (l 3 : Nat), .int .u64 (l 4 : Nat)] 25)) (w.heap.size + 1 + 1) #[.int .u64 (A 0), .int .u64 (A 1), .int .u64 (A 2), .int .u64 (A 3), .int .u64 (A 4)] 25 ∧ Blk ((((w.alloc (.cells #[.int .u64 (rh 0), .int .u64 (rl 0), .int .u64 (rh 1), .int .u64 (rl 1), .int .u64 (rh 2), .int .u64 (rl 2), .int .u64 (rh 3), .int .u64 (rl 3)] 24)).alloc (.cells #[.int .u64 ph, .int .u64 pl] 23)).alloc (.cells #[.int .u64 (A 0), .int .u64 (A 1), .int .u64 (A 2), .int .u64 (A 3), .int .u64 (A 4)] 25)).alloc (.cells #[.int .u64 (l 0 : Nat), .int .u64 (l 1 : Nat), .int .u64 (l 2 : Nat), .int .u64 (l 3 : Nat), .int .u64 (l 4 : Nat)] 25)) (w.heap.size + 1 + 1 + 1) #[.int .u64 (l 0 : Nat), .int .u64 (l 1 : Nat), .int .u64 (l 2 : Nat), .int .u64 (l 3 : Nat), .int .u64 (l 4 : Nat)] 25) := by
    have k1 := ((Blk.new (w.alloc (.cells #[.int .u64 (rh 0), .int .u64 (rl 0), .int .u64 (rh 1), .int .u64 (rl 1), .int .u64 (rh 2), .int .u64 (rl 2), .int .u64 (rh 3), .int .u64 (rl 3)] 24)) #[.int .u64 ph, .int .u64 pl] 23).alloc (.cells #[.int .u64 (A 0), .int .u64 (A 1), .int .u64 (A 2), .int .u64 (A 3), .int .u64 (A 4)] 25)).alloc (.cells #[.int .u64 (l 0 : Nat), .int .u64 (l 1 : Nat), .int .u64 (l 2 : Nat), .int .u64 (l 3 : Nat), .int .u64 (l 4 : Nat)] 25)
    have k2 := (Blk.new ((w.alloc (.cells #[.int .u64 (rh 0), .int .u64 (rl 0), .int .u64 (rh 1), .int .u64 (rl 1), .int .u64 (rh 2), .int .u64 (rl 2), .int .u64 (rh 3), .int .u64 (rl 3)] 24)).alloc (.cells #[.int .u64 ph, .int .u64 pl] 23)) #[.int .u64 (A 0), .int .u64 (A 1), .int .u64 (A 2), .int .u64 (A 3), .int .u64 (A 4)] 25).alloc (.cells #[.int .u64 (l 0 : Nat), .int .u64 (l 1 : Nat), .int .u64 (l 2 : Nat), .int .u64 (l 3 : Nat), .int .u64 (l 4 : Nat)] 25)
    have k3 := Blk.new (((w.alloc (.cells #[.int .u64 (rh 0), .int .u64 (rl 0), .int .u64 (rh 1), .int .u64 (rl 1), .int .u64 (rh 2), .int .u64 (rl 2), .int .u64 (rh 3), .int .u64 (rl 3)] 24)).alloc (.cells #[.int .u64 ph, .int .u64 pl] 23)).alloc (.cells #[.int .u64 (A 0), .int .u64 (A 1), .int .u64 (A 2), .int .u64 (A 3), .int .u64 (A 4)] 25)) #[.int .u64 (l 0 : Nat), .int .u64 (l 1 : Nat), .int .u64 (l 2 : Nat), .int .u64 (l 3 : Nat), .int .u64 (l 4 : Nat)] 25
    simp only [World.size_alloc] at k1 k2 k3
    exact ⟨by go_grown, (((Blk.new w #[.int .u64 (rh 0), .int .u64 (rl 0), .int .u64 (rh 1), .int .u64 (rl 1), .int .u64 (rh 2), .int .u64 (rl 2), .int .u64 (rh 3), .int .u64 (rl 3)] 24).alloc _).alloc _).alloc _, k1, k2, k3⟩
  by_cases hf0 : f = 0
  · subst hf0
    go_enter Try.func4, Try.ntmps4
    go_wp2_with fail
    go_ret
    exact ⟨rfl, HB.out.1⟩
  have hf1 : ¬ (f : Int) = 0 := by omega
  by_cases hk0 : kk = 0
  · subst hk0
    go_enter Try.func4, Try.ntmps4
    go_wp2_with fail
    go_ret
    exact ⟨rfl, HB.out.1⟩
  have hk1 : ¬ (kk : Int) = 0 := by omega
  obtain ⟨q, hq⟩ : ∃ q, q = 18446744073709551615 / kk := ⟨_, rfl⟩
  have t3 : (18446744073709551615 : Int).tdiv (kk : Int) = (q : Int) := by rw [hq]; rfl
  have u3 : (18446744073709551615 : Int) / (kk : Int) = (q : Int) := by rw [hq]; exact (Int.natCast_ediv 18446744073709551615 kk).symm
  have v3 : IntKind.u64.wrap (q : Int) = q := by
    have : q ≤ 18446744073709551615 := by rw [hq]; exact Nat.div_le_self _ _
    rw [IntKind.wrap_u64]; omega
  have HQq : Hid (∀ x : Nat, x ≤ q → x * kk < 18446744073709551616) := fun x hx => by
    have h1 := Nat.mul_le_mul_right kk hx
    have h2 := Nat.div_mul_le_self 18446744073709551615 kk
    rw [← hq] at h2
    omega
  clear hq
  by_cases hfq : q < f
  · have hfq' : (q : Int) < (f : Int) := by omega
    go_enter Try.func4, Try.ntmps4
    go_wp2_with fail
    go_ret
    exact ⟨rfl, HB.out.1⟩
  have hfq' : ¬ (q : Int) < (f : Int) := by omega
  have HFK : Hid (f * kk < 18446744073709551616) := HQq.out f (by omega)
  have hfb : ((f : Int) == 0) = false := by simpa using hf1
  have hkb : ((kk : Int) == 0) = false := by simpa using hk1
  have hqb : decide ((q : Int) < (f : Int)) = false := decide_eq_false hfq'
  clear hf1 hfq'
  go_enter Try.func4, Try.ntmps4
  go_wp2_with fail
  clear hfb hqb
  generalize ((((w.alloc (.cells #[.int .u64 (rh 0), .int .u64 (rl 0), .int .u64 (rh 1), .int .u64 (rl 1), .int .u64 (rh 2), .int .u64 (rl 2), .int .u64 (rh 3), .int .u64 (rl 3)] 24)).alloc (.cells #[.int .u64 ph, .int .u64 pl] 23)).alloc (.cells #[.int .u64 (A 0), .int .u64 (A 1), .int .u64 (A 2), .int .u64 (A 3), .int .u64 (A 4)] 25)).alloc (.cells #[.int .u64 (l 0 : Nat), .int .u64 (l 1 : Nat), .int .u64 (l 2 : Nat), .int .u64 (l 3 : Nat), .int .u64 (l 4 : Nat)] 25)) = W0 at *
  go_loopw [13] (fun v13 wx => ∃ (k m : Nat), v13 = .int .i64 k ∧ k ≤ 5 ∧ Hid (wx = W0.drewN m ∧ ∀ i, i < k → 0 < l i ∧ A i ≤ l i ∧ l i ≤ q)) (fun v13 _ => 5 - (RowKit.intOf v13).toNat)
  case atStart => exact ⟨0, 0, rfl, by omega, rfl, fun i hi => by omega⟩
  case round =>
    obtain ⟨k, m, rfl, hk, HI⟩ := hrel
    have HBr : Hid (Below w.heap.size w wr ∧ Blk wr w.heap.size #[.int .u64 (rh 0), .int .u64 (rl 0), .int .u64 (rh 1), .int .u64 (rl 1), .int .u64 (rh 2), .int .u64 (rl 2), .int .u64 (rh 3), .int .u64 (rl 3)] 24 ∧ Blk wr (w.heap.size + 1) #[.int .u64 ph, .int .u64 pl] 23 ∧ Blk wr (w.heap.size + 1 + 1) #[.int .u64 (A 0), .int .u64 (A 1), .int .u64 (A 2), .int .u64 (A 3), .int .u64 (A 4)] 25 ∧ Blk wr (w.heap.size + 1 + 1 + 1) #[.int .u64 (l 0 : Nat), .int .u64 (l 1 : Nat), .int .u64 (l 2 : Nat), .int .u64 (l 3 : Nat), .int .u64 (l 4 : Nat)] 25) := by
      obtain ⟨a1, a2, a3, a4, a5⟩ := HB.out
      rw [HI.out.1]
      exact ⟨below_drewN a1 _, a2, a3, a4, a5⟩
    by_cases hlt : k < 5
    · have hlt' : (k : Int) < 5 := by omega
      have h40 : (0 : Int) ≤ (k : Int) := by omega
      have cA : wr.cell? ⟨w.heap.size + 1 + 1, k, none⟩ = some (.int .u64 (A k)) := by
        rw [HBr.out.2.2.2.1.cell]
        rcases (by omega : k = 0 ∨ k = 1 ∨ k = 2 ∨ k = 3 ∨ k = 4) with rfl | rfl | rfl | rfl | rfl <;> rfl
      have cL : wr.cell? ⟨w.heap.size + 1 + 1 + 1, k, none⟩ = some (.int .u64 (l k : Nat)) := by
        rw [HBr.out.2.2.2.2.cell]
        rcases (by omega : k = 0 ∨ k = 1 ∨ k = 2 ∨ k = 3 ∨ k = 4) with rfl | rfl | rfl | rfl | rfl <;> rfl
      by_cases hl0 : l k = 0
      · have hl1 : ((l k : Nat) : Int) = 0 := by omega
        rw [hl1] at cL
        go_wp2_with fail
        go_quiet (fail)
        go_wp2_with fail
        go_ret
        exact ⟨rfl, below_drewN HBr.out.1 _⟩
      · have hl1 : ¬ ((l k : Nat) : Int) = 0 := by omega
        have HL0 : Hid (0 < l k) := show 0 < l k by omega
        by_cases hgt : ((l k : Nat) : Int) < A k
        · generalize hLk : ((l k : Nat) : Int) = Lk at cL hl1 hgt
          have hgd : decide (Lk < A k) = true := decide_eq_true hgt
          go_wp2_with fail
          go_quiet (fail)
          go_wp2_with fail
          go_ret
          exact ⟨rfl, below_drewN HBr.out.1 _⟩
        · have HLe : Hid (A k ≤ l k) := show A k ≤ l k by omega
          by_cases hbig : (q : Int) < ((l k : Nat) : Int)
          · generalize hLk : ((l k : Nat) : Int) = Lk at cL hl1 hgt hbig
            have hgd : decide (Lk < A k) = false := decide_eq_false hgt
            have hbd : decide ((q : Int) < Lk) = true := decide_eq_true hbig
            go_wp2_with fail
            go_quiet (fail)
            go_wp2_with fail
            go_ret
            exact ⟨rfl, below_drewN HBr.out.1 _⟩
          · have HLq : Hid (l k ≤ q) := show l k ≤ q by omega
            generalize hLk : ((l k : Nat) : Int) = Lk at cL hl1 hgt hbig
            have hgd : decide (Lk < A k) = false := decide_eq_false hgt
            have hbd : decide ((q : Int) < Lk) = false := decide_eq_false hbig
            go_wp2_with fail
            go_quiet (fail)
            go_wp2_with fail
            have HN : Hid (∀ i, i < k + 1 → 0 < l i ∧ A i ≤ l i ∧ l i ≤ q) := fun i hi => by
              by_cases e : i = k
              · subst e; exact ⟨HL0.out, HLe.out, HLq.out⟩
              · exact HI.out.2 i (by omega)
            have HWn : Hid (wr.drewN nq = W0.drewN (m + nq)) := by show _ = _; rw [HI.out.1, World.drewN_drewN]
            go_roundw
            case rel => first | exact ⟨k + 1, m + nq, rfl, by omega, HWn.out, HN.out⟩ | ((repeat apply Exists.intro); exact ⟨⟨k + 1, m + nq, rfl, by omega, HWn.out, HN.out⟩, rfl⟩)
            case measure => simp [RowKit.intOf]; omega
    · have hk5 : k = 5 := by omega
      subst hk5
      have HLm : Hid (∀ i, i < 5 → 0 < l i ∧ A i ≤ l i ∧ l i * kk < 18446744073709551616) := fun i hi => ⟨(HI.out.2 i hi).1, (HI.out.2 i hi).2.1, HQq.out _ (HI.out.2 i hi).2.2⟩
      obtain ⟨sl, hsl⟩ : ∃ sl : Nat → Nat, sl = fun i => l i * kk := ⟨_, rfl⟩
      have HSL : Hid (sl = fun i => l i * kk) := hsl
      have HSM : Hid (∀ i, i < 5 → 0 < sl i ∧ sl i < 18446744073709551616 ∧ A i ≤ sl i) := fun i hi => by
        have h1 := HLm.out i hi
        have h2 := Nat.le_mul_of_pos_right (l i) (show 0 < kk by omega)
        rw [hsl]
        show 0 < l i * kk ∧ l i * kk < 18446744073709551616 ∧ A i ≤ ((l i * kk : Nat) : Int)
        omega
      clear hsl
      clear HI hlt hk t3 u3 v3 HQq
      have HB8 : Hid ((Below w.heap.size w (wr.alloc (.cells #[.int .u64 0, .int .u64 0, .int .u64 0, .int .u64 0, .int .u64 0] 25)) ∧ Blk (wr.alloc (.cells #[.int .u64 0, .int .u64 0, .int .u64 0, .int .u64 0, .int .u64 0] 25)) w.heap.size #[.int .u64 (rh 0), .int .u64 (rl 0), .int .u64 (rh 1), .int .u64 (rl 1), .int .u64 (rh 2), .int .u64 (rl 2), .int .u64 (rh 3), .int .u64 (rl 3)] 24 ∧ Blk (wr.alloc (.cells #[.int .u64 0, .int .u64 0, .int .u64 0, .int .u64 0, .int .u64 0] 25)) (w.heap.size + 1) #[.int .u64 ph, .int .u64 pl] 23 ∧ Blk (wr.alloc (.cells #[.int .u64 0, .int .u64 0, .int .u64 0, .int .u64 0, .int .u64 0] 25)) (w.heap.size + 1 + 1) #[.int .u64 (A 0), .int .u64 (A 1), .int .u64 (A 2), .int .u64 (A 3), .int .u64 (A 4)] 25 ∧ Blk (wr.alloc (.cells #[.int .u64 0, .int .u64 0, .int .u64 0, .int .u64 0, .int .u64 0] 25)) (w.heap.size + 1 + 1 + 1) #[.int .u64 (l 0 : Nat), .int .u64 (l 1 : Nat), .int .u64 (l 2 : Nat), .int .u64 (l 3 : Nat), .int .u64 (l 4 : Nat)] 25) ∧ R5 (wr.alloc (.cells #[.int .u64 0, .int .u64 0, .int .u64 0, .int .u64 0, .int .u64 0] 25)) wr.heap.size (fun i => (((fun _ => 0 : Nat → Nat) i : Nat) : Int)) ∧ w.heap.size + 1 + 1 + 1 < wr.heap.size) := by
        obtain ⟨a1, a2, a3, a4, a5⟩ := HBr.out
        exact ⟨⟨a1.alloc a1.size _, a2.alloc _, a3.alloc _, a4.alloc _, a5.alloc _⟩, R5.new wr (fun _ => 0), a5.lt⟩
      go_upto_region 9 with (fail)
      generalize wr.alloc (.cells #[.int .u64 0, .int .u64 0, .int .u64 0, .int .u64 0, .int .u64 0] 25) = W8 at *
      generalize wr.heap.size = b14 at *
      go_wp2_with fail
      go_loopw [15] (fun v15 wx => ∃ (k : Nat) (sc : Nat → Nat), v15 = .int .i64 k ∧ k ≤ 5 ∧ Hid ((Below w.heap.size w wx ∧ Blk wx w.heap.size #[.int .u64 (rh 0), .int .u64 (rl 0), .int .u64 (rh 1), .int .u64 (rl 1), .int .u64 (rh 2), .int .u64 (rl 2), .int .u64 (rh 3), .int .u64 (rl 3)] 24 ∧ Blk wx (w.heap.size + 1) #[.int .u64 ph, .int .u64 pl] 23 ∧ Blk wx (w.heap.size + 1 + 1) #[.int .u64 (A 0), .int .u64 (A 1), .int .u64 (A 2), .int .u64 (A 3), .int .u64 (A 4)] 25 ∧ Blk wx (w.heap.size + 1 + 1 + 1) #[.int .u64 (l 0 : Nat), .int .u64 (l 1 : Nat), .int .u64 (l 2 : Nat), .int .u64 (l 3 : Nat), .int .u64 (l 4 : Nat)] 25) ∧ R5 wx b14 (fun i => (sc i : Int)) ∧ ∀ i, i < k → sc i = sl i)) (fun v15 _ => 5 - (RowKit.intOf v15).toNat)
      case atStart => exact ⟨0, fun _ => 0, rfl, by omega, HB8.out.1, HB8.out.2.1, fun i hi => by omega⟩
      case round =>
        obtain ⟨k, sc, rfl, hk, HI⟩ := hrel
        by_cases hlt : k < 5
        · have hlt' : (k : Int) < 5 := by omega
          have h40 : (0 : Int) ≤ (k : Int) := by omega
          have cL : wr.cell? ⟨w.heap.size + 1 + 1 + 1, k, none⟩ = some (.int .u64 (l k : Nat)) := by
            rw [HI.out.1.2.2.2.2.cell]
            rcases (by omega : k = 0 ∨ k = 1 ∨ k = 2 ∨ k = 3 ∨ k = 4) with rfl | rfl | rfl | rfl | rfl <;> rfl
          have c14 := HI.out.2.1.cell hlt
          have f14 := HI.out.2.1.froz k
          obtain ⟨p, hp⟩ : ∃ p, p = sl k := ⟨_, rfl⟩
          have HP : Hid (p = sl k) := hp
          have hm : ((l k : Nat) : Int) * (kk : Int) = (p : Int) := by rw [hp, HSL.out]; exact (Int.natCast_mul _ _).symm
          have hw : IntKind.u64.wrap (p : Int) = p := by
            have := (HSM.out k hlt).2.1
            rw [IntKind.wrap_u64]
            omega
          clear hp
          go_wp2_with fail
          go_roundw
          case rel =>
            obtain ⟨⟨a1, a2, a3, a4, a5⟩, a6, a7⟩ := HI.out
            have hb := HB8.out.2.2
            refine ⟨k + 1, fun j => if j = k then p else sc j, rfl, by omega, ⟨a1.setCell (p := ⟨b14, k, none⟩) (by simp; omega) _, a2.set ⟨b14, k, none⟩ _ (by simp; omega), a3.set ⟨b14, k, none⟩ _ (by simp; omega), a4.set ⟨b14, k, none⟩ _ (by simp; omega), a5.set ⟨b14, k, none⟩ _ (by simp; omega)⟩, a6.up k p, fun i hi => ?_⟩
            by_cases e : i = k
            · subst e
              simp only [if_true]
              exact HP.out
            · simp only [if_neg e]
              exact a7 i (by omega)
          case measure => simp [RowKit.intOf]; omega
        · have hk5 : k = 5 := by omega
          subst hk5
          have HS : Hid ((Below w.heap.size w wr ∧ Blk wr w.heap.size #[.int .u64 (rh 0), .int .u64 (rl 0), .int .u64 (rh 1), .int .u64 (rl 1), .int .u64 (rh 2), .int .u64 (rl 2), .int .u64 (rh 3), .int .u64 (rl 3)] 24 ∧ Blk wr (w.heap.size + 1) #[.int .u64 ph, .int .u64 pl] 23 ∧ Blk wr (w.heap.size + 1 + 1) #[.int .u64 (A 0), .int .u64 (A 1), .int .u64 (A 2), .int .u64 (A 3), .int .u64 (A 4)] 25 ∧ Blk wr (w.heap.size + 1 + 1 + 1) #[.int .u64 (l 0 : Nat), .int .u64 (l 1 : Nat), .int .u64 (l 2 : Nat), .int .u64 (l 3 : Nat), .int .u64 (l 4 : Nat)] 25) ∧ R5 wr b14 (fun i => (sl i : Int))) := ⟨HI.out.1, HI.out.2.1.eq (fun i hi => by rw [HI.out.2.2 i hi])⟩
          clear HI hlt hk HB8
          have HI8 : Hid ((Try.prog.info? 24).map (·.size) = some ([.int .u64 (rh 0), .int .u64 (rl 0), .int .u64 (rh 1), .int .u64 (rl 1), .int .u64 (rh 2), .int .u64 (rl 2), .int .u64 (rh 3), .int .u64 (rl 3)] : List Value).length ∧ (Try.prog.info? 23).map (·.size) = some ([.int .u64 ph, .int .u64 pl] : List Value).length ∧ (Try.prog.info? 25).map (·.size) = some 5) := ⟨Try.size24, Try.size23, Try.size25⟩
          obtain ⟨fk, hfk⟩ : ∃ fk, fk = f * kk := ⟨_, rfl⟩
          have HFK2 : Hid (fk = f * kk ∧ 0 < fk ∧ fk < 18446744073709551616) := ⟨hfk, by rw [hfk]; exact Nat.mul_pos (by omega) (by omega), by rw [hfk]; exact HFK.out⟩
          have hm : (f : Int) * (kk : Int) = (fk : Int) := by rw [hfk]; exact (Int.natCast_mul _ _).symm
          have hw : IntKind.u64.wrap (fk : Int) = fk := by
            have := HFK2.out.2.2
            rw [IntKind.wrap_u64]
            omega
          clear hfk
          go_wp2_with (refine wpList_load_mid rfl 25 (.tmp 9) rfl (w.heap.size + 1 + 1 + 1) 0 rfl [.int .u64 (l 0 : Nat), .int .u64 (l 1 : Nat), .int .u64 (l 2 : Nat), .int .u64 (l 3 : Nat), .int .u64 (l 4 : Nat)] _ HS.out.1.2.2.2.2.range Try.underlying25 rfl HI8.out.2.2 ?_)
          refine (scales_any l (f) (fun k hk => ⟨(HLm.out k hk).1, HW.out.2.2.1 k⟩) ⟨by omega, HW.out.2.2.2.2.1⟩ _).mono ?_
          rintro e w1 ⟨⟨mu, dv, folded, rfl, hsc⟩, hb⟩
          have HSC : Hid (∀ k, k < 5 → IsScale (f) (l k) (mu k) (dv k) folded ∧ mu k < 18446744073709551616 ∧ dv k < 18446744073709551616) := hsc
          have HB1 : Hid ((Below w.heap.size w w1 ∧ Blk w1 w.heap.size #[.int .u64 (rh 0), .int .u64 (rl 0), .int .u64 (rh 1), .int .u64 (rl 1), .int .u64 (rh 2), .int .u64 (rl 2), .int .u64 (rh 3), .int .u64 (rl 3)] 24 ∧ Blk w1 (w.heap.size + 1) #[.int .u64 ph, .int .u64 pl] 23 ∧ Blk w1 (w.heap.size + 1 + 1) #[.int .u64 (A 0), .int .u64 (A 1), .int .u64 (A 2), .int .u64 (A 3), .int .u64 (A 4)] 25 ∧ Blk w1 (w.heap.size + 1 + 1 + 1) #[.int .u64 (l 0 : Nat), .int .u64 (l 1 : Nat), .int .u64 (l 2 : Nat), .int .u64 (l 3 : Nat), .int .u64 (l 4 : Nat)] 25) ∧ R5 w1 b14 (fun i => (sl i : Int))) := by
            obtain ⟨⟨a1, a2, a3, a4, a5⟩, a6⟩ := HS.out
            exact ⟨⟨a1.trans (hb.mono a1.size), a2.below hb, a3.below hb, a4.below hb, a5.below hb⟩, a6.below hb⟩
          clear hsc hb
          obtain ⟨Mmu, hM5⟩ : ∃ M5 : Array Value, M5 = #[.int .u64 (mu 0 : Nat), .int .u64 (mu 1 : Nat), .int .u64 (mu 2 : Nat), .int .u64 (mu 3 : Nat), .int .u64 (mu 4 : Nat)] := ⟨_, rfl⟩
          obtain ⟨Ddv, hD5⟩ : ∃ D5 : Array Value, D5 = #[.int .u64 (dv 0 : Nat), .int .u64 (dv 1 : Nat), .int .u64 (dv 2 : Nat), .int .u64 (dv 3 : Nat), .int .u64 (dv 4 : Nat)] := ⟨_, rfl⟩
          have HM : Hid (Mmu = #[.int .u64 (mu 0 : Nat), .int .u64 (mu 1 : Nat), .int .u64 (mu 2 : Nat), .int .u64 (mu 3 : Nat), .int .u64 (mu 4 : Nat)] ∧ Mmu.size = 5 ∧ Mmu.all (·.oneCell') = true ∧ Ddv = #[.int .u64 (dv 0 : Nat), .int .u64 (dv 1 : Nat), .int .u64 (dv 2 : Nat), .int .u64 (dv 3 : Nat), .int .u64 (dv 4 : Nat)] ∧ Ddv.size = 5 ∧ Ddv.all (·.oneCell') = true) := ⟨hM5, by rw [hM5]; rfl, by rw [hM5]; simp [Value.oneCell'], hD5, by rw [hD5]; rfl, by rw [hD5]; simp [Value.oneCell']⟩
          rw [← hM5, ← hD5]
          clear hM5 hD5
          have HT : Hid (((w1.alloc (.cells #[.int .u64 0, .int .u64 0, .int .u64 0, .int .u64 0, .int .u64 0] 25)).alloc (.cells #[.int .u64 0, .int .u64 0, .int .u64 0, .int .u64 0, .int .u64 0] 25)).there w1.heap.size 0 Mmu.size ∧ (((w1.alloc (.cells #[.int .u64 0, .int .u64 0, .int .u64 0, .int .u64 0, .int .u64 0] 25)).alloc (.cells #[.int .u64 0, .int .u64 0, .int .u64 0, .int .u64 0, .int .u64 0] 25)).setCells w1.heap.size 0 Mmu.toList).there (w1.heap.size + 1) 0 Ddv.size ∧ (Try.prog.info? 25).map (·.size) = some Mmu.size ∧ (Try.prog.info? 25).map (·.size) = some Ddv.size) := by
            rw [HM.out.2.1, HM.out.2.2.2.2.1]
            have t1 := World.there_alloc (there_new w1 25 #[.int .u64 0, .int .u64 0, .int .u64 0, .int .u64 0, .int .u64 0]) (.cells #[.int .u64 0, .int .u64 0, .int .u64 0, .int .u64 0, .int .u64 0] 25)
            have t2 := there_new (w1.alloc (.cells #[.int .u64 0, .int .u64 0, .int .u64 0, .int .u64 0, .int .u64 0] 25)) 25 #[.int .u64 0, .int .u64 0, .int .u64 0, .int .u64 0, .int .u64 0]
            rw [World.size_alloc] at t2
            exact ⟨t1, World.there_setCells t2 _ _ _, Try.size25, Try.size25⟩
          go_upto_region 14 with (first
            | (refine wpList_store_mid rfl 25 (.tmp 16) (.tmp 78) rfl w1.heap.size 0 Mmu rfl rfl HT.out.1 HT.out.2.2.1 HM.out.2.2.1 ?_)
            | (refine wpList_store_mid rfl 25 (.tmp 17) (.tmp 79) rfl (w1.heap.size + 1) 0 Ddv rfl rfl HT.out.2.1 HT.out.2.2.2 HM.out.2.2.2.2.2 ?_))
          have HB2 : Hid ((((Below w.heap.size w ((((w1.alloc (.cells #[.int .u64 0, .int .u64 0, .int .u64 0, .int .u64 0, .int .u64 0] 25)).alloc (.cells #[.int .u64 0, .int .u64 0, .int .u64 0, .int .u64 0, .int .u64 0] 25)).setCells w1.heap.size 0 Mmu.toList).setCells (w1.heap.size + 1) 0 Ddv.toList) ∧ Blk ((((w1.alloc (.cells #[.int .u64 0, .int .u64 0, .int .u64 0, .int .u64 0, .int .u64 0] 25)).alloc (.cells #[.int .u64 0, .int .u64 0, .int .u64 0, .int .u64 0, .int .u64 0] 25)).setCells w1.heap.size 0 Mmu.toList).setCells (w1.heap.size + 1) 0 Ddv.toList) w.heap.size #[.int .u64 (rh 0), .int .u64 (rl 0), .int .u64 (rh 1), .int .u64 (rl 1), .int .u64 (rh 2), .int .u64 (rl 2), .int .u64 (rh 3), .int .u64 (rl 3)] 24 ∧ Blk ((((w1.alloc (.cells #[.int .u64 0, .int .u64 0, .int .u64 0, .int .u64 0, .int .u64 0] 25)).alloc (.cells #[.int .u64 0, .int .u64 0, .int .u64 0, .int .u64 0, .int .u64 0] 25)).setCells w1.heap.size 0 Mmu.toList).setCells (w1.heap.size + 1) 0 Ddv.toList) (w.heap.size + 1) #[.int .u64 ph, .int .u64 pl] 23 ∧ Blk ((((w1.alloc (.cells #[.int .u64 0, .int .u64 0, .int .u64 0, .int .u64 0, .int .u64 0] 25)).alloc (.cells #[.int .u64 0, .int .u64 0, .int .u64 0, .int .u64 0, .int .u64 0] 25)).setCells w1.heap.size 0 Mmu.toList).setCells (w1.heap.size + 1) 0 Ddv.toList) (w.heap.size + 1 + 1) #[.int .u64 (A 0), .int .u64 (A 1), .int .u64 (A 2), .int .u64 (A 3), .int .u64 (A 4)] 25 ∧ Blk ((((w1.alloc (.cells #[.int .u64 0, .int .u64 0, .int .u64 0, .int .u64 0, .int .u64 0] 25)).alloc (.cells #[.int .u64 0, .int .u64 0, .int .u64 0, .int .u64 0, .int .u64 0] 25)).setCells w1.heap.size 0 Mmu.toList).setCells (w1.heap.size + 1) 0 Ddv.toList) (w.heap.size + 1 + 1 + 1) #[.int .u64 (l 0 : Nat), .int .u64 (l 1 : Nat), .int .u64 (l 2 : Nat), .int .u64 (l 3 : Nat), .int .u64 (l 4 : Nat)] 25) ∧ R5 ((((w1.alloc (.cells #[.int .u64 0, .int .u64 0, .int .u64 0, .int .u64 0, .int .u64 0] 25)).alloc (.cells #[.int .u64 0, .int .u64 0, .int .u64 0, .int .u64 0, .int .u64 0] 25)).setCells w1.heap.size 0 Mmu.toList).setCells (w1.heap.size + 1) 0 Ddv.toList) b14 (fun i => (sl i : Int)))) ∧ ((((w1.alloc (.cells #[.int .u64 0, .int .u64 0, .int .u64 0, .int .u64 0, .int .u64 0] 25)).alloc (.cells #[.int .u64 0, .int .u64 0, .int .u64 0, .int .u64 0, .int .u64 0] 25)).setCells w1.heap.size 0 Mmu.toList).setCells (w1.heap.size + 1) 0 Ddv.toList).rangeAt w1.heap.size 0 [.int .u64 (mu 0 : Nat), .int .u64 (mu 1 : Nat), .int .u64 (mu 2 : Nat), .int .u64 (mu 3 : Nat), .int .u64 (mu 4 : Nat)] ∧ ((((w1.alloc (.cells #[.int .u64 0, .int .u64 0, .int .u64 0, .int .u64 0, .int .u64 0] 25)).alloc (.cells #[.int .u64 0, .int .u64 0, .int .u64 0, .int .u64 0, .int .u64 0] 25)).setCells w1.heap.size 0 Mmu.toList).setCells (w1.heap.size + 1) 0 Ddv.toList).rangeAt (w1.heap.size + 1) 0 [.int .u64 (dv 0 : Nat), .int .u64 (dv 1 : Nat), .int .u64 (dv 2 : Nat), .int .u64 (dv 3 : Nat), .int .u64 (dv 4 : Nat)]) := by
            obtain ⟨⟨a1, a2, a3, a4, a5⟩, a6⟩ := HB1.out
            have hb : Below w1.heap.size w1 ((((w1.alloc (.cells #[.int .u64 0, .int .u64 0, .int .u64 0, .int .u64 0, .int .u64 0] 25)).alloc (.cells #[.int .u64 0, .int .u64 0, .int .u64 0, .int .u64 0, .int .u64 0] 25)).setCells w1.heap.size 0 Mmu.toList).setCells (w1.heap.size + 1) 0 Ddv.toList) := below_setCells (by omega) _ _ _ (below_setCells (Nat.le_refl _) _ _ _ (((Below.refl _ _).alloc (Nat.le_refl _) _).alloc (by simp) _))
            have t1 := HT.out.1
            have t2 := HT.out.2.1
            have r1 : ((((w1.alloc (.cells #[.int .u64 0, .int .u64 0, .int .u64 0, .int .u64 0, .int .u64 0] 25)).alloc (.cells #[.int .u64 0, .int .u64 0, .int .u64 0, .int .u64 0, .int .u64 0] 25)).setCells w1.heap.size 0 Mmu.toList).setCells (w1.heap.size + 1) 0 Ddv.toList).rangeAt w1.heap.size 0 Mmu.toList := World.rangeAt_setCells_apart (World.rangeAt_setCells_same _ _ _ _ (by rw [Array.length_toList]; exact t1)) _ _ _ (Or.inl (by omega))
            have r2 : ((((w1.alloc (.cells #[.int .u64 0, .int .u64 0, .int .u64 0, .int .u64 0, .int .u64 0] 25)).alloc (.cells #[.int .u64 0, .int .u64 0, .int .u64 0, .int .u64 0, .int .u64 0] 25)).setCells w1.heap.size 0 Mmu.toList).setCells (w1.heap.size + 1) 0 Ddv.toList).rangeAt (w1.heap.size + 1) 0 Ddv.toList := World.rangeAt_setCells_same _ _ _ _ (by rw [Array.length_toList]; exact t2)
            refine ⟨⟨⟨a1.trans (hb.mono a1.size), a2.below hb, a3.below hb, a4.below hb, a5.below hb⟩, a6.below hb⟩, ?_, ?_⟩
            · intro j v hv; exact r1 j v (by rw [HM.out.1]; exact hv)
            · intro j v hv; exact r2 j v (by rw [HM.out.2.2.2.1]; exact hv)
          generalize ((((w1.alloc (.cells #[.int .u64 0, .int .u64 0, .int .u64 0, .int .u64 0, .int .u64 0] 25)).alloc (.cells #[.int .u64 0, .int .u64 0, .int .u64 0, .int .u64 0, .int .u64 0] 25)).setCells w1.heap.size 0 Mmu.toList).setCells (w1.heap.size + 1) 0 Ddv.toList) = W2 at *
          generalize w1.heap.size = b16 at *
          clear HB1 HT HM
          go_wp2_with (first
            | (refine wpList_load_mid rfl 25 (.tmp 9) rfl (w.heap.size + 1 + 1 + 1) 0 rfl [.int .u64 (l 0 : Nat), .int .u64 (l 1 : Nat), .int .u64 (l 2 : Nat), .int .u64 (l 3 : Nat), .int .u64 (l 4 : Nat)] _ HB2.out.1.1.2.2.2.2.range Try.underlying25 rfl HI8.out.2.2 ?_)
            | (refine wpList_load_mid rfl 25 (.tmp 16) rfl b16 0 rfl [.int .u64 (mu 0 : Nat), .int .u64 (mu 1 : Nat), .int .u64 (mu 2 : Nat), .int .u64 (mu 3 : Nat), .int .u64 (mu 4 : Nat)] _ HB2.out.2.1 Try.underlying25 rfl HI8.out.2.2 ?_)
            | (refine wpList_load_mid rfl 25 (.tmp 17) rfl (b16 + 1) 0 rfl [.int .u64 (dv 0 : Nat), .int .u64 (dv 1 : Nat), .int .u64 (dv 2 : Nat), .int .u64 (dv 3 : Nat), .int .u64 (dv 4 : Nat)] _ HB2.out.2.2 Try.underlying25 rfl HI8.out.2.2 ?_)
            | (refine wpList_load_mid rfl 24 (.tmp 6) rfl w.heap.size 0 rfl [.int .u64 (rh 0), .int .u64 (rl 0), .int .u64 (rh 1), .int .u64 (rl 1), .int .u64 (rh 2), .int .u64 (rl 2), .int .u64 (rh 3), .int .u64 (rl 3)] _ HB2.out.1.1.2.1.range Try.underlying24 rfl HI8.out.1 ?_)
            | (refine wpList_load_mid rfl 23 (.tmp 7) rfl (w.heap.size + 1) 0 rfl [.int .u64 ph, .int .u64 pl] _ HB2.out.1.1.2.2.1.range Try.underlying23 rfl HI8.out.2.1 ?_)
            | (refine wpList_load_mid rfl 25 (.tmp 8) rfl (w.heap.size + 1 + 1) 0 rfl [.int .u64 (A 0), .int .u64 (A 1), .int .u64 (A 2), .int .u64 (A 3), .int .u64 (A 4)] _ HB2.out.1.1.2.2.2.1.range Try.underlying25 rfl HI8.out.2.2 ?_))
          have hok := scale_ok HSC.out HW.out.2.1 HW.out.2.2.1 (fun i hi => (HLm.out i hi).2.1)
          refine (zz_any (fun i => (l i : Int)) A (fun i => (mu i : Int)) (fun i => (dv i : Int)) rh rl (f : Int) ph pl folded HW.out.1 hok.1 hok.2 HW.out.2.2.2.1 ⟨by omega, by have := HW.out.2.2.2.2.1; omega⟩ (by omega) _).mono ?_
          clear hok
          rintro e w3 ⟨⟨fee, ok, rfl, hfee, hR⟩, hb⟩
          have HR : Hid (Word fee ∧ Right (NN rh rl A (V2 ph pl) (f : Int)) (fun k => (l k : Int)) fee ok) := ⟨hfee, right_back (fun k hk => (HSC.out k hk).1) hR⟩
          have HS3 : Hid ((Below w.heap.size w w3 ∧ Blk w3 w.heap.size #[.int .u64 (rh 0), .int .u64 (rl 0), .int .u64 (rh 1), .int .u64 (rl 1), .int .u64 (rh 2), .int .u64 (rl 2), .int .u64 (rh 3), .int .u64 (rl 3)] 24 ∧ Blk w3 (w.heap.size + 1) #[.int .u64 ph, .int .u64 pl] 23 ∧ Blk w3 (w.heap.size + 1 + 1) #[.int .u64 (A 0), .int .u64 (A 1), .int .u64 (A 2), .int .u64 (A 3), .int .u64 (A 4)] 25 ∧ Blk w3 (w.heap.size + 1 + 1 + 1) #[.int .u64 (l 0 : Nat), .int .u64 (l 1 : Nat), .int .u64 (l 2 : Nat), .int .u64 (l 3 : Nat), .int .u64 (l 4 : Nat)] 25) ∧ R5 w3 b14 (fun i => (sl i : Int))) := by
            obtain ⟨⟨a1, a2, a3, a4, a5⟩, a6⟩ := HB2.out.1
            exact ⟨⟨a1.trans (hb.mono a1.size), a2.below hb, a3.below hb, a4.below hb, a5.below hb⟩, a6.below hb⟩
          clear hfee hR hb HB2 HSC
          go_wp2_with (refine wpList_load_mid rfl 25 (.tmp 14) rfl b14 0 rfl [.int .u64 (sl 0 : Nat), .int .u64 (sl 1 : Nat), .int .u64 (sl 2 : Nat), .int .u64 (sl 3 : Nat), .int .u64 (sl 4 : Nat)] _ HS3.out.2.range Try.underlying25 rfl HI8.out.2.2 ?_)
          refine (scales_any sl (fk) (fun k hk => ⟨(HSM.out k hk).1, (HSM.out k hk).2.1⟩) HFK2.out.2 _).mono ?_
          rintro e w4 ⟨⟨nu, ev, gold, rfl, hsc⟩, hb⟩
          have HSC2 : Hid (∀ k, k < 5 → IsScale (fk) (sl k) (nu k) (ev k) gold ∧ nu k < 18446744073709551616 ∧ ev k < 18446744073709551616) := hsc
          have HB1 : Hid ((Below w.heap.size w w4 ∧ Blk w4 w.heap.size #[.int .u64 (rh 0), .int .u64 (rl 0), .int .u64 (rh 1), .int .u64 (rl 1), .int .u64 (rh 2), .int .u64 (rl 2), .int .u64 (rh 3), .int .u64 (rl 3)] 24 ∧ Blk w4 (w.heap.size + 1) #[.int .u64 ph, .int .u64 pl] 23 ∧ Blk w4 (w.heap.size + 1 + 1) #[.int .u64 (A 0), .int .u64 (A 1), .int .u64 (A 2), .int .u64 (A 3), .int .u64 (A 4)] 25 ∧ Blk w4 (w.heap.size + 1 + 1 + 1) #[.int .u64 (l 0 : Nat), .int .u64 (l 1 : Nat), .int .u64 (l 2 : Nat), .int .u64 (l 3 : Nat), .int .u64 (l 4 : Nat)] 25) ∧ R5 w4 b14 (fun i => (sl i : Int))) := by
            obtain ⟨⟨a1, a2, a3, a4, a5⟩, a6⟩ := HS3.out
            exact ⟨⟨a1.trans (hb.mono a1.size), a2.below hb, a3.below hb, a4.below hb, a5.below hb⟩, a6.below hb⟩
          clear hsc hb
          obtain ⟨Mnu, hM5⟩ : ∃ M5 : Array Value, M5 = #[.int .u64 (nu 0 : Nat), .int .u64 (nu 1 : Nat), .int .u64 (nu 2 : Nat), .int .u64 (nu 3 : Nat), .int .u64 (nu 4 : Nat)] := ⟨_, rfl⟩
          obtain ⟨Dev, hD5⟩ : ∃ D5 : Array Value, D5 = #[.int .u64 (ev 0 : Nat), .int .u64 (ev 1 : Nat), .int .u64 (ev 2 : Nat), .int .u64 (ev 3 : Nat), .int .u64 (ev 4 : Nat)] := ⟨_, rfl⟩
          have HM : Hid (Mnu = #[.int .u64 (nu 0 : Nat), .int .u64 (nu 1 : Nat), .int .u64 (nu 2 : Nat), .int .u64 (nu 3 : Nat), .int .u64 (nu 4 : Nat)] ∧ Mnu.size = 5 ∧ Mnu.all (·.oneCell') = true ∧ Dev = #[.int .u64 (ev 0 : Nat), .int .u64 (ev 1 : Nat), .int .u64 (ev 2 : Nat), .int .u64 (ev 3 : Nat), .int .u64 (ev 4 : Nat)] ∧ Dev.size = 5 ∧ Dev.all (·.oneCell') = true) := ⟨hM5, by rw [hM5]; rfl, by rw [hM5]; simp [Value.oneCell'], hD5, by rw [hD5]; rfl, by rw [hD5]; simp [Value.oneCell']⟩
          rw [← hM5, ← hD5]
          clear hM5 hD5
          have HT : Hid (((w4.alloc (.cells #[.int .u64 0, .int .u64 0, .int .u64 0, .int .u64 0, .int .u64 0] 25)).alloc (.cells #[.int .u64 0, .int .u64 0, .int .u64 0, .int .u64 0, .int .u64 0] 25)).there w4.heap.size 0 Mnu.size ∧ (((w4.alloc (.cells #[.int .u64 0, .int .u64 0, .int .u64 0, .int .u64 0, .int .u64 0] 25)).alloc (.cells #[.int .u64 0, .int .u64 0, .int .u64 0, .int .u64 0, .int .u64 0] 25)).setCells w4.heap.size 0 Mnu.toList).there (w4.heap.size + 1) 0 Dev.size ∧ (Try.prog.info? 25).map (·.size) = some Mnu.size ∧ (Try.prog.info? 25).map (·.size) = some Dev.size) := by
            rw [HM.out.2.1, HM.out.2.2.2.2.1]
            have t1 := World.there_alloc (there_new w4 25 #[.int .u64 0, .int .u64 0, .int .u64 0, .int .u64 0, .int .u64 0]) (.cells #[.int .u64 0, .int .u64 0, .int .u64 0, .int .u64 0, .int .u64 0] 25)
            have t2 := there_new (w4.alloc (.cells #[.int .u64 0, .int .u64 0, .int .u64 0, .int .u64 0, .int .u64 0] 25)) 25 #[.int .u64 0, .int .u64 0, .int .u64 0, .int .u64 0, .int .u64 0]
            rw [World.size_alloc] at t2
            exact ⟨t1, World.there_setCells t2 _ _ _, Try.size25, Try.size25⟩
          go_upto_region 16 with (first
            | (refine wpList_store_mid rfl 25 (.tmp 21) (.tmp 99) rfl w4.heap.size 0 Mnu rfl rfl HT.out.1 HT.out.2.2.1 HM.out.2.2.1 ?_)
            | (refine wpList_store_mid rfl 25 (.tmp 22) (.tmp 100) rfl (w4.heap.size + 1) 0 Dev rfl rfl HT.out.2.1 HT.out.2.2.2 HM.out.2.2.2.2.2 ?_))
          have HB4 : Hid ((((Below w.heap.size w ((((w4.alloc (.cells #[.int .u64 0, .int .u64 0, .int .u64 0, .int .u64 0, .int .u64 0] 25)).alloc (.cells #[.int .u64 0, .int .u64 0, .int .u64 0, .int .u64 0, .int .u64 0] 25)).setCells w4.heap.size 0 Mnu.toList).setCells (w4.heap.size + 1) 0 Dev.toList) ∧ Blk ((((w4.alloc (.cells #[.int .u64 0, .int .u64 0, .int .u64 0, .int .u64 0, .int .u64 0] 25)).alloc (.cells #[.int .u64 0, .int .u64 0, .int .u64 0, .int .u64 0, .int .u64 0] 25)).setCells w4.heap.size 0 Mnu.toList).setCells (w4.heap.size + 1) 0 Dev.toList) w.heap.size #[.int .u64 (rh 0), .int .u64 (rl 0), .int .u64 (rh 1), .int .u64 (rl 1), .int .u64 (rh 2), .int .u64 (rl 2), .int .u64 (rh 3), .int .u64 (rl 3)] 24 ∧ Blk ((((w4.alloc (.cells #[.int .u64 0, .int .u64 0, .int .u64 0, .int .u64 0, .int .u64 0] 25)).alloc (.cells #[.int .u64 0, .int .u64 0, .int .u64 0, .int .u64 0, .int .u64 0] 25)).setCells w4.heap.size 0 Mnu.toList).setCells (w4.heap.size + 1) 0 Dev.toList) (w.heap.size + 1) #[.int .u64 ph, .int .u64 pl] 23 ∧ Blk ((((w4.alloc (.cells #[.int .u64 0, .int .u64 0, .int .u64 0, .int .u64 0, .int .u64 0] 25)).alloc (.cells #[.int .u64 0, .int .u64 0, .int .u64 0, .int .u64 0, .int .u64 0] 25)).setCells w4.heap.size 0 Mnu.toList).setCells (w4.heap.size + 1) 0 Dev.toList) (w.heap.size + 1 + 1) #[.int .u64 (A 0), .int .u64 (A 1), .int .u64 (A 2), .int .u64 (A 3), .int .u64 (A 4)] 25 ∧ Blk ((((w4.alloc (.cells #[.int .u64 0, .int .u64 0, .int .u64 0, .int .u64 0, .int .u64 0] 25)).alloc (.cells #[.int .u64 0, .int .u64 0, .int .u64 0, .int .u64 0, .int .u64 0] 25)).setCells w4.heap.size 0 Mnu.toList).setCells (w4.heap.size + 1) 0 Dev.toList) (w.heap.size + 1 + 1 + 1) #[.int .u64 (l 0 : Nat), .int .u64 (l 1 : Nat), .int .u64 (l 2 : Nat), .int .u64 (l 3 : Nat), .int .u64 (l 4 : Nat)] 25) ∧ R5 ((((w4.alloc (.cells #[.int .u64 0, .int .u64 0, .int .u64 0, .int .u64 0, .int .u64 0] 25)).alloc (.cells #[.int .u64 0, .int .u64 0, .int .u64 0, .int .u64 0, .int .u64 0] 25)).setCells w4.heap.size 0 Mnu.toList).setCells (w4.heap.size + 1) 0 Dev.toList) b14 (fun i => (sl i : Int)))) ∧ ((((w4.alloc (.cells #[.int .u64 0, .int .u64 0, .int .u64 0, .int .u64 0, .int .u64 0] 25)).alloc (.cells #[.int .u64 0, .int .u64 0, .int .u64 0, .int .u64 0, .int .u64 0] 25)).setCells w4.heap.size 0 Mnu.toList).setCells (w4.heap.size + 1) 0 Dev.toList).rangeAt w4.heap.size 0 [.int .u64 (nu 0 : Nat), .int .u64 (nu 1 : Nat), .int .u64 (nu 2 : Nat), .int .u64 (nu 3 : Nat), .int .u64 (nu 4 : Nat)] ∧ ((((w4.alloc (.cells #[.int .u64 0, .int .u64 0, .int .u64 0, .int .u64 0, .int .u64 0] 25)).alloc (.cells #[.int .u64 0, .int .u64 0, .int .u64 0, .int .u64 0, .int .u64 0] 25)).setCells w4.heap.size 0 Mnu.toList).setCells (w4.heap.size + 1) 0 Dev.toList).rangeAt (w4.heap.size + 1) 0 [.int .u64 (ev 0 : Nat), .int .u64 (ev 1 : Nat), .int .u64 (ev 2 : Nat), .int .u64 (ev 3 : Nat), .int .u64 (ev 4 : Nat)]) := by
            obtain ⟨⟨a1, a2, a3, a4, a5⟩, a6⟩ := HB1.out
            have hb : Below w4.heap.size w4 ((((w4.alloc (.cells #[.int .u64 0, .int .u64 0, .int .u64 0, .int .u64 0, .int .u64 0] 25)).alloc (.cells #[.int .u64 0, .int .u64 0, .int .u64 0, .int .u64 0, .int .u64 0] 25)).setCells w4.heap.size 0 Mnu.toList).setCells (w4.heap.size + 1) 0 Dev.toList) := below_setCells (by omega) _ _ _ (below_setCells (Nat.le_refl _) _ _ _ (((Below.refl _ _).alloc (Nat.le_refl _) _).alloc (by simp) _))
            have t1 := HT.out.1
            have t2 := HT.out.2.1
            have r1 : ((((w4.alloc (.cells #[.int .u64 0, .int .u64 0, .int .u64 0, .int .u64 0, .int .u64 0] 25)).alloc (.cells #[.int .u64 0, .int .u64 0, .int .u64 0, .int .u64 0, .int .u64 0] 25)).setCells w4.heap.size 0 Mnu.toList).setCells (w4.heap.size + 1) 0 Dev.toList).rangeAt w4.heap.size 0 Mnu.toList := World.rangeAt_setCells_apart (World.rangeAt_setCells_same _ _ _ _ (by rw [Array.length_toList]; exact t1)) _ _ _ (Or.inl (by omega))
            have r2 : ((((w4.alloc (.cells #[.int .u64 0, .int .u64 0, .int .u64 0, .int .u64 0, .int .u64 0] 25)).alloc (.cells #[.int .u64 0, .int .u64 0, .int .u64 0, .int .u64 0, .int .u64 0] 25)).setCells w4.heap.size 0 Mnu.toList).setCells (w4.heap.size + 1) 0 Dev.toList).rangeAt (w4.heap.size + 1) 0 Dev.toList := World.rangeAt_setCells_same _ _ _ _ (by rw [Array.length_toList]; exact t2)
            refine ⟨⟨⟨a1.trans (hb.mono a1.size), a2.below hb, a3.below hb, a4.below hb, a5.below hb⟩, a6.below hb⟩, ?_, ?_⟩
            · intro j v hv; exact r1 j v (by rw [HM.out.1]; exact hv)
            · intro j v hv; exact r2 j v (by rw [HM.out.2.2.2.1]; exact hv)
          generalize ((((w4.alloc (.cells #[.int .u64 0, .int .u64 0, .int .u64 0, .int .u64 0, .int .u64 0] 25)).alloc (.cells #[.int .u64 0, .int .u64 0, .int .u64 0, .int .u64 0, .int .u64 0] 25)).setCells w4.heap.size 0 Mnu.toList).setCells (w4.heap.size + 1) 0 Dev.toList) = W4 at *
          generalize w4.heap.size = b21 at *
          clear HB1 HT HM
          go_wp2_with (first
            | (refine wpList_load_mid rfl 25 (.tmp 14) rfl b14 0 rfl [.int .u64 (sl 0 : Nat), .int .u64 (sl 1 : Nat), .int .u64 (sl 2 : Nat), .int .u64 (sl 3 : Nat), .int .u64 (sl 4 : Nat)] _ HB4.out.1.2.range Try.underlying25 rfl HI8.out.2.2 ?_)
            | (refine wpList_load_mid rfl 25 (.tmp 21) rfl b21 0 rfl [.int .u64 (nu 0 : Nat), .int .u64 (nu 1 : Nat), .int .u64 (nu 2 : Nat), .int .u64 (nu 3 : Nat), .int .u64 (nu 4 : Nat)] _ HB4.out.2.1 Try.underlying25 rfl HI8.out.2.2 ?_)
            | (refine wpList_load_mid rfl 25 (.tmp 22) rfl (b21 + 1) 0 rfl [.int .u64 (ev 0 : Nat), .int .u64 (ev 1 : Nat), .int .u64 (ev 2 : Nat), .int .u64 (ev 3 : Nat), .int .u64 (ev 4 : Nat)] _ HB4.out.2.2 Try.underlying25 rfl HI8.out.2.2 ?_)
            | (refine wpList_load_mid rfl 24 (.tmp 6) rfl w.heap.size 0 rfl [.int .u64 (rh 0), .int .u64 (rl 0), .int .u64 (rh 1), .int .u64 (rl 1), .int .u64 (rh 2), .int .u64 (rl 2), .int .u64 (rh 3), .int .u64 (rl 3)] _ HB4.out.1.1.2.1.range Try.underlying24 rfl HI8.out.1 ?_)
            | (refine wpList_load_mid rfl 23 (.tmp 7) rfl (w.heap.size + 1) 0 rfl [.int .u64 ph, .int .u64 pl] _ HB4.out.1.1.2.2.1.range Try.underlying23 rfl HI8.out.2.1 ?_)
            | (refine wpList_load_mid rfl 25 (.tmp 8) rfl (w.heap.size + 1 + 1) 0 rfl [.int .u64 (A 0), .int .u64 (A 1), .int .u64 (A 2), .int .u64 (A 3), .int .u64 (A 4)] _ HB4.out.1.1.2.2.2.1.range Try.underlying25 rfl HI8.out.2.2 ?_))
          have hok := scale_ok2 HSC2.out HW.out.2.1 (fun i hi => (HSM.out i hi).2.1) (fun i hi => (HSM.out i hi).2.2)
          refine (zz_any (fun i => (sl i : Int)) A (fun i => (nu i : Int)) (fun i => (ev i : Int)) rh rl (fk : Int) ph pl gold HW.out.1 hok.1 hok.2 HW.out.2.2.2.1 ⟨by omega, by have h1 := HFK2.out.2.2; omega⟩ (by have h1 := HFK2.out.2.1; omega) _).mono ?_
          clear hok
          rintro e w6 ⟨⟨sfee, sok, rfl, hfee, hR⟩, hb⟩
          have HSA : Hid (ok = sok ∧ (ok = true → fee = sfee)) := by
            have h2 := right_back (fun k hk => (HSC2.out k hk).1) hR
            rw [HFK2.out.1, HSL.out] at h2
            exact same_answer (show 0 < kk by omega) (fun i hi => (HLm.out i hi).1) HR.out.1 hfee HR.out.2 h2
          have HS6 : Hid (Below w.heap.size w w6 ∧ Blk w6 w.heap.size #[.int .u64 (rh 0), .int .u64 (rl 0), .int .u64 (rh 1), .int .u64 (rl 1), .int .u64 (rh 2), .int .u64 (rl 2), .int .u64 (rh 3), .int .u64 (rl 3)] 24 ∧ Blk w6 (w.heap.size + 1) #[.int .u64 ph, .int .u64 pl] 23 ∧ Blk w6 (w.heap.size + 1 + 1) #[.int .u64 (A 0), .int .u64 (A 1), .int .u64 (A 2), .int .u64 (A 3), .int .u64 (A 4)] 25 ∧ Blk w6 (w.heap.size + 1 + 1 + 1) #[.int .u64 (l 0 : Nat), .int .u64 (l 1 : Nat), .int .u64 (l 2 : Nat), .int .u64 (l 3 : Nat), .int .u64 (l 4 : Nat)] 25) := by
            obtain ⟨⟨a1, a2, a3, a4, a5⟩, a6⟩ := HB4.out.1
            exact ⟨a1.trans (hb.mono a1.size), a2.below hb, a3.below hb, a4.below hb, a5.below hb⟩
          clear hfee hR hb HB4 HSC2
          obtain ⟨hs1, hs2⟩ := HSA.out
          subst hs1
          clear HSA
          cases ok with
          | true =>
            have hs3 := hs2 rfl
            subst hs3
            clear hs2
            go_wp2_with (first
              | (refine wpList_load_mid rfl 24 (.tmp 6) rfl w.heap.size 0 rfl [.int .u64 (rh 0), .int .u64 (rl 0), .int .u64 (rh 1), .int .u64 (rl 1), .int .u64 (rh 2), .int .u64 (rl 2), .int .u64 (rh 3), .int .u64 (rl 3)] _ HS6.out.2.1.range Try.underlying24 rfl HI8.out.1 ?_)
              | (refine wpList_load_mid rfl 23 (.tmp 7) rfl (w.heap.size + 1) 0 rfl [.int .u64 ph, .int .u64 pl] _ HS6.out.2.2.1.range Try.underlying23 rfl HI8.out.2.1 ?_)
              | (refine wpList_load_mid rfl 25 (.tmp 8) rfl (w.heap.size + 1 + 1) 0 rfl [.int .u64 (A 0), .int .u64 (A 1), .int .u64 (A 2), .int .u64 (A 3), .int .u64 (A 4)] _ HS6.out.2.2.2.1.range Try.underlying25 rfl HI8.out.2.2 ?_)
              | (refine wpList_load_mid rfl 25 (.tmp 9) rfl (w.heap.size + 1 + 1 + 1) 0 rfl [.int .u64 (l 0 : Nat), .int .u64 (l 1 : Nat), .int .u64 (l 2 : Nat), .int .u64 (l 3 : Nat), .int .u64 (l 4 : Nat)] _ HS6.out.2.2.2.2.range Try.underlying25 rfl HI8.out.2.2 ?_))
            refine (ans_any rh rl A (fun i => (l i : Int)) ph pl (f : Int) fee true HW.out.1 HW.out.2.1 (fun i => ⟨by omega, by have := HW.out.2.2.1 i; omega⟩) (fun i hi => by have := (HLm.out i hi).1; omega) HW.out.2.2.2.1 ⟨by omega, by have := HW.out.2.2.2.2.1; omega⟩ HR.out.1 HR.out.2 _).mono ?_
            rintro e w7 ⟨rfl, hb⟩
            have HB7 : Hid (Below w.heap.size w w7) := HS6.out.1.trans (hb.mono HS6.out.1.size)
            clear hb HS6
            go_wp2_with fail
            go_ret
            exact ⟨rfl, HB7.out⟩
          | false =>
            clear hs2
            go_wp2_with (first
              | (refine wpList_load_mid rfl 24 (.tmp 6) rfl w.heap.size 0 rfl [.int .u64 (rh 0), .int .u64 (rl 0), .int .u64 (rh 1), .int .u64 (rl 1), .int .u64 (rh 2), .int .u64 (rl 2), .int .u64 (rh 3), .int .u64 (rl 3)] _ HS6.out.2.1.range Try.underlying24 rfl HI8.out.1 ?_)
              | (refine wpList_load_mid rfl 23 (.tmp 7) rfl (w.heap.size + 1) 0 rfl [.int .u64 ph, .int .u64 pl] _ HS6.out.2.2.1.range Try.underlying23 rfl HI8.out.2.1 ?_)
              | (refine wpList_load_mid rfl 25 (.tmp 8) rfl (w.heap.size + 1 + 1) 0 rfl [.int .u64 (A 0), .int .u64 (A 1), .int .u64 (A 2), .int .u64 (A 3), .int .u64 (A 4)] _ HS6.out.2.2.2.1.range Try.underlying25 rfl HI8.out.2.2 ?_)
              | (refine wpList_load_mid rfl 25 (.tmp 9) rfl (w.heap.size + 1 + 1 + 1) 0 rfl [.int .u64 (l 0 : Nat), .int .u64 (l 1 : Nat), .int .u64 (l 2 : Nat), .int .u64 (l 3 : Nat), .int .u64 (l 4 : Nat)] _ HS6.out.2.2.2.2.range Try.underlying25 rfl HI8.out.2.2 ?_))
            refine (ans_any rh rl A (fun i => (l i : Int)) ph pl (f : Int) fee false HW.out.1 HW.out.2.1 (fun i => ⟨by omega, by have := HW.out.2.2.1 i; omega⟩) (fun i hi => by have := (HLm.out i hi).1; omega) HW.out.2.2.2.1 ⟨by omega, by have := HW.out.2.2.2.2.1; omega⟩ HR.out.1 HR.out.2 _).mono ?_
            rintro e w7 ⟨rfl, hb⟩
            have HB7 : Hid (Below w.heap.size w w7) := HS6.out.1.trans (hb.mono HS6.out.1.size)
            clear hb HS6
            go_wp2_with fail
            go_ret
            exact ⟨rfl, HB7.out⟩
end Go.Proofs.Qxb6616476a
