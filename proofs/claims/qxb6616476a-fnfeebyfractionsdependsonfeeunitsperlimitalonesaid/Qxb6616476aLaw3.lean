import Derived.Test.Qxb6616476aZz
import Derived.Test.Qxb6616476aAns
namespace Go.Proofs.Qxb6616476a
open Go.RowKit Go.Lib
set_option linter.unusedSimpArgs false

theorem Try.size24 : (Try.prog.info? 24).map (·.size) = some 8 := by kernel_rfl
theorem Try.size23 : (Try.prog.info? 23).map (·.size) = some 2 := by kernel_rfl
theorem right_congr {n d n' d' : Nat → Int} {fee : Int} {ok : Bool} (hn : ∀ k, k < 5 → n k = n' k) (hd : ∀ k, k < 5 → d k = d' k) (h : Right n d fee ok) : Right n' d' fee ok := by
  obtain ⟨u, hu, hr⟩ := h
  have hu3 := hu.1
  have eT : TT n d u = TT n' d' u := by unfold TT; rw [hn u (by omega), hn 3 (by omega), hn 4 (by omega), hd u (by omega), hd 3 (by omega), hd 4 (by omega)]
  have eD : DD d u = DD d' u := by unfold DD; rw [hd u (by omega), hd 3 (by omega), hd 4 (by omega)]
  refine ⟨u, ⟨hu3, fun k hk => ?_⟩, ?_⟩
  · rw [← hn k (by omega), ← hn u (by omega), ← hd k (by omega), ← hd u (by omega)]
    exact hu.2 k hk
  · unfold RightAt
    rw [← eT, ← eD]
    exact hr
/-- from the schedule's terms back to the limits and fee units -/
theorem right_back {rh rl A : Nat → Int} {l mu dv : Nat → Nat} {P : Int} {f : Nat} {folded : Bool} {fee : Int} {ok : Bool} (hs : ∀ k, k < 5 → IsScale f (l k) (mu k) (dv k) folded) (h : Right (nn rh rl A (fun k => (mu k : Int)) P (f : Int) folded) (fun k => (dv k : Int)) fee ok) : Right (NN rh rl A P (f : Int)) (fun k => (l k : Int)) fee ok := by
  have hg : ∀ k, ∃ g : Nat, 0 < g ∧ (k < 5 → l k = g * dv k ∧ (folded = true → f = g * mu k) ∧ (folded = false → mu k = 1 ∧ g = 1)) := fun k => by
    by_cases hk : k < 5
    · obtain ⟨g, h1, h2, h3, h4, h5⟩ := hs k hk
      exact ⟨g, h1, fun _ => ⟨h3, fun h => (h4 h).1, h5⟩⟩
    · exact ⟨1, by omega, fun h => absurd h hk⟩
  have h1 := right_scale (g := fun k => ((hg k).choose : Int)) (fun k => by have := (hg k).choose_spec.1; omega) h
  refine right_congr (fun k hk => ?_) (fun k hk => ?_) h1
  · obtain ⟨_, h2⟩ := (hg k).choose_spec
    obtain ⟨h3, h4, h5⟩ := h2 hk
    generalize (hg k).choose = g at *
    show (g : Int) * nn rh rl A (fun k => (mu k : Int)) P (f : Int) folded k = NN rh rl A P (f : Int) k
    unfold nn NN x1 rr
    cases folded with
    | true =>
      have e : (f : Int) = (g : Int) * (mu k : Int) := by rw [← Int.natCast_mul, ← h4 rfl]
      rw [if_pos rfl, e]
      ac_rfl
    | false =>
      obtain ⟨e1, e2⟩ := h5 rfl
      subst e2
      rw [if_neg (by decide)]
      simp only [e1]
      simp
  · obtain ⟨_, h2⟩ := (hg k).choose_spec
    obtain ⟨h3, h4, h5⟩ := h2 hk
    show ((hg k).choose : Int) * (dv k : Int) = (l k : Int)
    rw [← Int.natCast_mul, ← h3]
theorem scale_ok {l mu dv : Nat → Nat} {A : Nat → Int} {f : Nat} {folded : Bool} (hs : ∀ k, k < 5 → IsScale f (l k) (mu k) (dv k) folded ∧ mu k < 18446744073709551616 ∧ dv k < 18446744073709551616) (hA : ∀ i, Word (A i)) (hl : ∀ i, l i < 18446744073709551616) (hAl : ∀ i, i < 5 → A i ≤ l i) : (∀ i, i < 5 → Word (A i) ∧ Word (A i * (mu i : Int))) ∧ (∀ i, i < 5 → Word (dv i : Int) ∧ 0 < (dv i : Int)) := by
  refine ⟨fun i hi => ⟨hA i, ?_⟩, fun i hi => ?_⟩
  · obtain ⟨⟨g, h1, h2, h3, h4, h5⟩, h6, h7⟩ := hs i hi
    obtain ⟨p1, p2⟩ := hA i
    have p3 := hAl i hi
    cases folded with
    | true =>
      have e := (h4 rfl).2
      have q1 := Int.mul_le_mul_of_nonneg_right p3 (show (0 : Int) ≤ (mu i : Int) by omega)
      have q2 : ((l i : Nat) : Int) * (mu i : Int) = ((mu i * l i : Nat) : Int) := by rw [Int.natCast_mul, Int.mul_comm]
      have q3 := Int.mul_nonneg p1 (show (0 : Int) ≤ (mu i : Int) by omega)
      exact ⟨q3, by omega⟩
    | false =>
      rw [(h5 rfl).1]
      have := hl i
      exact ⟨by omega, by omega⟩
  · obtain ⟨⟨g, h1, h2, h3, h4, h5⟩, h6, h7⟩ := hs i hi
    exact ⟨⟨by omega, by omega⟩, by omega⟩

set_option maxRecDepth 100000 in
set_option maxHeartbeats 4000000 in
theorem law3 (rh rl A : Nat → Int) (l : Nat → Nat) (ph pl : Int) (f : Nat) (hr : ∀ i, Word (rh i) ∧ Word (rl i)) (hA : ∀ i, Word (A i)) (hl : ∀ i, l i < 18446744073709551616) (hp : Word ph ∧ Word pl) (hf : f < 18446744073709551616) (w : World) :
    Calls Try.prog 3 #[.agg #[.int .u64 (rh 0), .int .u64 (rl 0), .int .u64 (rh 1), .int .u64 (rl 1), .int .u64 (rh 2), .int .u64 (rl 2), .int .u64 (rh 3), .int .u64 (rl 3)], .agg #[.int .u64 ph, .int .u64 pl], .agg #[.int .u64 (A 0), .int .u64 (A 1), .int .u64 (A 2), .int .u64 (A 3), .int .u64 (A 4)], .agg #[.int .u64 (l 0 : Nat), .int .u64 (l 1 : Nat), .int .u64 (l 2 : Nat), .int .u64 (l 3 : Nat), .int .u64 (l 4 : Nat)], .int .u64 f] w fun e w' => e = .returned (.bool true) ∧ Below w.heap.size w w' := by
  have HW : Hid ((∀ i, Word (rh i) ∧ Word (rl i)) ∧ (∀ i, Word (A i)) ∧ (∀ i, l i < 18446744073709551616) ∧ (Word ph ∧ Word pl) ∧ f < 18446744073709551616) := ⟨hr, hA, hl, hp, hf⟩
  clear hr hA hl hp hf
  have HB : Hid (Below w.heap.size w ((((w.alloc (.cells #[.int .u64 (rh 0), .int .u64 (rl 0), .int .u64 (rh 1), .int .u64 (rl 1), .int .u64 (rh 2), .int .u64 (rl 2), .int .u64 (rh 3), .int .u64 (rl 3)] 24)).alloc (.cells #[.int .u64 ph, .int .u64 pl] 23)).alloc (.cells #[.int .u64 (A 0), .int .u64 (A 1), .int .u64 (A 2), .int .u64 (A 3), .int .u64 (A 4)] 25)).alloc (.cells #[.int .u64 (l 0 : Nat), .int .u64 (l 1 : Nat), .int .u64 (l 2 : Nat), .int .u64 (l 3 : Nat), .int .u64 (l 4 : Nat)] 25)) ∧ Blk ((((w.alloc (.cells #[.int .u64 (rh 0), .int .u64 (rl 0), .int .u64 (rh 1), .int .u64 (rl 1), .int .u64 (rh 2), .int .u64 (rl 2), .int .u64 (rh 3), .int .u64 (rl 3)] 24)).alloc (.cells #[.int .u64 ph, .int .u64 pl] 23)).alloc (.cells #[.int .u64 (A 0), .int .u64 (A 1), .int .u64 (A 2), .int .u64 (A 3), .int .u64 (A 4)] 25)).alloc (.cells #[.int .u64 (l 0 : Nat), .int .u64 (l 1 : Nat), .int .u64 (l 2 : Nat), .int .u64 (l 3 : Nat), .int .u64 (l 4 : Nat)] 25)) w.heap.size #[.int .u64 (rh 0), .int .u64 (rl 0), .int .u64 (rh 1), .int .u64 (rl 1), .int .u64 (rh 2), .int .u64 (rl 2), .int .u64 (rh 3), .int .u64 (rl 3)] 24 ∧ Blk ((((w.alloc (.cells #[.int .u64 (rh 0), .int .u64 (rl 0), .int .u64 (rh 1), .int .u64 (rl 1), .int .u64 (rh 2), .int .u64 (rl 2), .int .u64 (rh 3), .int .u64 (rl 3)] 24)).alloc (.cells #[.int .u64 ph, .int .u64 pl] 23)).alloc (.cells #[.int .u64 (A 0), .int .u64 (A 1), .int .u64 (A 2), .int .u64 (A 3), .int .u64 (A 4)] 25)).alloc (.cells #[.int .u64 (l 0 : Nat), .int .u64 (l 1 : Nat), .int .u64 (l 2 : Nat), .int .u64 (l 3 : Nat), .int .u64 (l 4 : Nat)] 25)) (w.heap.size + 1) #[.int .u64 ph, .int .u64 pl] 23 ∧ Blk ((((w.alloc (.cells #[.int .u64 (rh 0), .int .u64 (rl 0), .int .u64 (rh 1), .int .u64 (rl 1), .int .u64 (rh 2), .int .u64 (rl 2), .int .u64 (rh 3), .int .u64 (rl 3)] 24)).alloc (.cells #[.int .u64 ph, .int .u64 pl] 23)).alloc (.cells #[.int .u64 (A 0), .int .u64 (A 1), .int .u64 (A 2), .int .u64 (A 3), .int .u64 (A 4)] 25)).alloc (.cells #[.int .u64 (l 0 : Nat), .int .u64 (l 1 : Nat), .int .u64 (l 2 : Nat), .int .u64 (l 3 : Nat), .int .u64 (l 4 : Nat)] 25)) (w.heap.size + 1 + 1) #[.int .u64 (A 0), .int .u64 (A 1), .int .u64 (A 2), .int .u64 (A 3), .int .u64 (A 4)] 25 ∧ Blk ((((w.alloc (.cells #[.int .u64 (rh 0), .int .u64 (rl 0), .int .u64 (rh 1), .int .u64 (rl 1), .int .u64 (rh 2), .int .u64 (rl 2), .int .u64 (rh 3), .int .u64 (rl 3)] 24)).alloc (.cells #[.int .u64 ph, .int .u64 pl] 23)).alloc (.cells #[.int .u64 (A 0), .int .u64 (A 1), .int .u64 (A 2), .int .u64 (A 3), .int .u64 (A 4)] 25)).alloc (.cells #[.int .u64 (l 0 : Nat), .int .u64 (l 1 : Nat), .int .u64 (l 2 : Nat), .int .u64 (l 3 : Nat), .int .u64 (l 4 : Nat)] 25)) (w.heap.size + 1 + 1 + 1) #[.int .u64 (l 0 : Nat), .int .u64 (l 1 : Nat), .int .u64 (l 2 : Nat), .int .u64 (l 3 : Nat), .int .u64 (l 4 : Nat)] 25) := by
    have k1 := ((Blk.new (w.alloc (.cells #[.int .u64 (rh 0), .int .u64 (rl 0), .int .u64 (rh 1), .int .u64 (rl 1), .int .u64 (rh 2), .int .u64 (rl 2), .int .u64 (rh 3), .int .u64 (rl 3)] 24)) #[.int .u64 ph, .int .u64 pl] 23).alloc (.cells #[.int .u64 (A 0), .int .u64 (A 1), .int .u64 (A 2), .int .u64 (A 3), .int .u64 (A 4)] 25)).alloc (.cells #[.int .u64 (l 0 : Nat), .int .u64 (l 1 : Nat), .int .u64 (l 2 : Nat), .int .u64 (l 3 : Nat), .int .u64 (l 4 : Nat)] 25)
    have k2 := (Blk.new ((w.alloc (.cells #[.int .u64 (rh 0), .int .u64 (rl 0), .int .u64 (rh 1), .int .u64 (rl 1), .int .u64 (rh 2), .int .u64 (rl 2), .int .u64 (rh 3), .int .u64 (rl 3)] 24)).alloc (.cells #[.int .u64 ph, .int .u64 pl] 23)) #[.int .u64 (A 0), .int .u64 (A 1), .int .u64 (A 2), .int .u64 (A 3), .int .u64 (A 4)] 25).alloc (.cells #[.int .u64 (l 0 : Nat), .int .u64 (l 1 : Nat), .int .u64 (l 2 : Nat), .int .u64 (l 3 : Nat), .int .u64 (l 4 : Nat)] 25)
    have k3 := Blk.new (((w.alloc (.cells #[.int .u64 (rh 0), .int .u64 (rl 0), .int .u64 (rh 1), .int .u64 (rl 1), .int .u64 (rh 2), .int .u64 (rl 2), .int .u64 (rh 3), .int .u64 (rl 3)] 24)).alloc (.cells #[.int .u64 ph, .int .u64 pl] 23)).alloc (.cells #[.int .u64 (A 0), .int .u64 (A 1), .int .u64 (A 2), .int .u64 (A 3), .int .u64 (A 4)] 25)) #[.int .u64 (l 0 : Nat), .int .u64 (l 1 : Nat), .int .u64 (l 2 : Nat), .int .u64 (l 3 : Nat), .int .u64 (l 4 : Nat)] 25
    simp only [World.size_alloc] at k1 k2 k3
    exact ⟨by go_grown, (((Blk.new w #[.int .u64 (rh 0), .int .u64 (rl 0), .int .u64 (rh 1), .int .u64 (rl 1), .int .u64 (rh 2), .int .u64 (rl 2), .int .u64 (rh 3), .int .u64 (rl 3)] 24).alloc _).alloc _).alloc _, k1, k2, k3⟩
  by_cases hf0 : f = 0
  · subst hf0
    go_enter Try.func3, Try.ntmps3
    go_wp2_with fail
    go_ret
    exact ⟨rfl, HB.out.1⟩
  have hf1 : ¬ (f : Int) = 0 := by omega
  go_enter Try.func3, Try.ntmps3
  go_wp2_with fail
  have hfb : ((f : Int) == 0) = false := by simpa using hf1
  rw [hfb]
  clear hfb hf1
  generalize ((((w.alloc (.cells #[.int .u64 (rh 0), .int .u64 (rl 0), .int .u64 (rh 1), .int .u64 (rl 1), .int .u64 (rh 2), .int .u64 (rl 2), .int .u64 (rh 3), .int .u64 (rl 3)] 24)).alloc (.cells #[.int .u64 ph, .int .u64 pl] 23)).alloc (.cells #[.int .u64 (A 0), .int .u64 (A 1), .int .u64 (A 2), .int .u64 (A 3), .int .u64 (A 4)] 25)).alloc (.cells #[.int .u64 (l 0 : Nat), .int .u64 (l 1 : Nat), .int .u64 (l 2 : Nat), .int .u64 (l 3 : Nat), .int .u64 (l 4 : Nat)] 25)) = W0 at *
  go_loopw [11] (fun v11 wx => ∃ (k m : Nat), v11 = .int .i64 k ∧ k ≤ 5 ∧ Hid (wx = W0.drewN m ∧ ∀ i, i < k → 0 < l i ∧ A i ≤ l i)) (fun v11 _ => 5 - (RowKit.intOf v11).toNat)
  case atStart => exact ⟨0, 0, rfl, by omega, rfl, fun i hi => by omega⟩
  case round =>
    obtain ⟨k, m, rfl, hk, HI⟩ := hrel
    have HBr : Hid (Below w.heap.size w wr ∧ Blk wr w.heap.size #[.int .u64 (rh 0), .int .u64 (rl 0), .int .u64 (rh 1), .int .u64 (rl 1), .int .u64 (rh 2), .int .u64 (rl 2), .int .u64 (rh 3), .int .u64 (rl 3)] 24 ∧ Blk wr (w.heap.size + 1) #[.int .u64 ph, .int .u64 pl] 23 ∧ Blk wr (w.heap.size + 1 + 1) #[.int .u64 (A 0), .int .u64 (A 1), .int .u64 (A 2), .int .u64 (A 3), .int .u64 (A 4)] 25 ∧ Blk wr (w.heap.size + 1 + 1 + 1) #[.int .u64 (l 0 : Nat), .int .u64 (l 1 : Nat), .int .u64 (l 2 : Nat), .int .u64 (l 3 : Nat), .int .u64 (l 4 : Nat)] 25) := by
      obtain ⟨a1, a2, a3, a4, a5⟩ := HB.out
      rw [HI.out.1]
      exact ⟨below_drewN a1 _, a2, a3, a4, a5⟩
    by_cases hlt : k < 5
    · have hlt' : (k : Int) < 5 := by omega
      have h40 : (0 : Int) ≤ (k : Int) := by omega
      have cA : wr.cell? ⟨w.heap.size + 1 + 1, k, none⟩ = some (.int .u64 (A k)) := by
        rw [HBr.out.2.2.2.1.cell]
        rcases (by omega : k = 0 ∨ k = 1 ∨ k = 2 ∨ k = 3 ∨ k = 4) with rfl | rfl | rfl | rfl | rfl <;> rfl
      have cL : wr.cell? ⟨w.heap.size + 1 + 1 + 1, k, none⟩ = some (.int .u64 (l k : Nat)) := by
        rw [HBr.out.2.2.2.2.cell]
        rcases (by omega : k = 0 ∨ k = 1 ∨ k = 2 ∨ k = 3 ∨ k = 4) with rfl | rfl | rfl | rfl | rfl <;> rfl
      by_cases hl0 : l k = 0
      · have hl1 : ((l k : Nat) : Int) = 0 := by omega
        rw [hl1] at cL
        go_wp2_with fail
        go_quiet (fail)
        go_wp2_with fail
        go_ret
        exact ⟨rfl, below_drewN HBr.out.1 _⟩
      · have hl1 : ¬ ((l k : Nat) : Int) = 0 := by omega
        have HL0 : Hid (0 < l k) := show 0 < l k by omega
        by_cases hgt : ((l k : Nat) : Int) < A k
        · generalize hLk : ((l k : Nat) : Int) = Lk at *
          go_wp2_with fail
          go_quiet (fail)
          go_wp2_with fail
          go_ret
          exact ⟨rfl, below_drewN HBr.out.1 _⟩
        · have HLe : Hid (A k ≤ l k) := show A k ≤ l k by omega
          generalize hLk : ((l k : Nat) : Int) = Lk at cL hl1 hgt
          have hgd : decide (Lk < A k) = false := decide_eq_false hgt
          go_wp2_with fail
          go_quiet (fail)
          go_wp2_with fail
          have HN : Hid (∀ i, i < k + 1 → 0 < l i ∧ A i ≤ l i) := fun i hi => by
            by_cases e : i = k
            · subst e; exact ⟨HL0.out, HLe.out⟩
            · exact HI.out.2 i (by omega)
          have HWn : Hid (wr.drewN nq = W0.drewN (m + nq)) := by show _ = _; rw [HI.out.1, World.drewN_drewN]
          go_roundw
          case rel => first | exact ⟨k + 1, m + nq, rfl, by omega, HWn.out, HN.out⟩ | ((repeat apply Exists.intro); exact ⟨⟨k + 1, m + nq, rfl, by omega, HWn.out, HN.out⟩, rfl⟩)
          case measure => simp [RowKit.intOf]; omega
    · have hk5 : k = 5 := by omega
      subst hk5
      have HLm : Hid (∀ i, i < 5 → 0 < l i ∧ A i ≤ l i) := HI.out.2
      have HI5 : Hid ((Try.prog.info? 25).map (·.size) = some ([.int .u64 (l 0 : Nat), .int .u64 (l 1 : Nat), .int .u64 (l 2 : Nat), .int .u64 (l 3 : Nat), .int .u64 (l 4 : Nat)] : List Value).length) := Try.size25
      clear HI hlt hk
      go_wp2_with (refine wpList_load_mid rfl 25 (.tmp 8) rfl (w.heap.size + 1 + 1 + 1) 0 rfl [.int .u64 (l 0 : Nat), .int .u64 (l 1 : Nat), .int .u64 (l 2 : Nat), .int .u64 (l 3 : Nat), .int .u64 (l 4 : Nat)] _ HBr.out.2.2.2.2.range Try.underlying25 rfl HI5.out ?_)
      refine (scales_any l f (fun k hk => ⟨(HLm.out k hk).1, HW.out.2.2.1 k⟩) ⟨by omega, HW.out.2.2.2.2⟩ _).mono ?_
      rintro e w1 ⟨⟨mu, dv, folded, rfl, hsc⟩, hb⟩
      have HSC : Hid (∀ k, k < 5 → IsScale f (l k) (mu k) (dv k) folded ∧ mu k < 18446744073709551616 ∧ dv k < 18446744073709551616) := hsc
      have HB1 : Hid (Below w.heap.size w w1 ∧ Blk w1 w.heap.size #[.int .u64 (rh 0), .int .u64 (rl 0), .int .u64 (rh 1), .int .u64 (rl 1), .int .u64 (rh 2), .int .u64 (rl 2), .int .u64 (rh 3), .int .u64 (rl 3)] 24 ∧ Blk w1 (w.heap.size + 1) #[.int .u64 ph, .int .u64 pl] 23 ∧ Blk w1 (w.heap.size + 1 + 1) #[.int .u64 (A 0), .int .u64 (A 1), .int .u64 (A 2), .int .u64 (A 3), .int .u64 (A 4)] 25 ∧ Blk w1 (w.heap.size + 1 + 1 + 1) #[.int .u64 (l 0 : Nat), .int .u64 (l 1 : Nat), .int .u64 (l 2 : Nat), .int .u64 (l 3 : Nat), .int .u64 (l 4 : Nat)] 25) := by
        obtain ⟨a1, a2, a3, a4, a5⟩ := HBr.out
        exact ⟨a1.trans (hb.mono a1.size), a2.below hb, a3.below hb, a4.below hb, a5.below hb⟩
      clear hsc hb HBr
      obtain ⟨M5, hM5⟩ : ∃ M5 : Array Value, M5 = #[.int .u64 (mu 0 : Nat), .int .u64 (mu 1 : Nat), .int .u64 (mu 2 : Nat), .int .u64 (mu 3 : Nat), .int .u64 (mu 4 : Nat)] := ⟨_, rfl⟩
      obtain ⟨D5, hD5⟩ : ∃ D5 : Array Value, D5 = #[.int .u64 (dv 0 : Nat), .int .u64 (dv 1 : Nat), .int .u64 (dv 2 : Nat), .int .u64 (dv 3 : Nat), .int .u64 (dv 4 : Nat)] := ⟨_, rfl⟩
      have HM : Hid (M5 = #[.int .u64 (mu 0 : Nat), .int .u64 (mu 1 : Nat), .int .u64 (mu 2 : Nat), .int .u64 (mu 3 : Nat), .int .u64 (mu 4 : Nat)] ∧ M5.size = 5 ∧ M5.all (·.oneCell') = true ∧ D5 = #[.int .u64 (dv 0 : Nat), .int .u64 (dv 1 : Nat), .int .u64 (dv 2 : Nat), .int .u64 (dv 3 : Nat), .int .u64 (dv 4 : Nat)] ∧ D5.size = 5 ∧ D5.all (·.oneCell') = true) := ⟨hM5, by rw [hM5]; rfl, by rw [hM5]; simp [Value.oneCell'], hD5, by rw [hD5]; rfl, by rw [hD5]; simp [Value.oneCell']⟩
      rw [← hM5, ← hD5]
      clear hM5 hD5
      have HT : Hid (((w1.alloc (.cells #[.int .u64 0, .int .u64 0, .int .u64 0, .int .u64 0, .int .u64 0] 25)).alloc (.cells #[.int .u64 0, .int .u64 0, .int .u64 0, .int .u64 0, .int .u64 0] 25)).there w1.heap.size 0 M5.size ∧ (((w1.alloc (.cells #[.int .u64 0, .int .u64 0, .int .u64 0, .int .u64 0, .int .u64 0] 25)).alloc (.cells #[.int .u64 0, .int .u64 0, .int .u64 0, .int .u64 0, .int .u64 0] 25)).setCells w1.heap.size 0 M5.toList).there (w1.heap.size + 1) 0 D5.size ∧ (Try.prog.info? 25).map (·.size) = some M5.size ∧ (Try.prog.info? 25).map (·.size) = some D5.size) := by
        rw [HM.out.2.1, HM.out.2.2.2.2.1]
        have t1 := World.there_alloc (there_new w1 25 #[.int .u64 0, .int .u64 0, .int .u64 0, .int .u64 0, .int .u64 0]) (.cells #[.int .u64 0, .int .u64 0, .int .u64 0, .int .u64 0, .int .u64 0] 25)
        have t2 := there_new (w1.alloc (.cells #[.int .u64 0, .int .u64 0, .int .u64 0, .int .u64 0, .int .u64 0] 25)) 25 #[.int .u64 0, .int .u64 0, .int .u64 0, .int .u64 0, .int .u64 0]
        rw [World.size_alloc] at t2
        exact ⟨t1, World.there_setCells t2 _ _ _, Try.size25, Try.size25⟩
      go_upto_region 9 with (first
        | (refine wpList_store_mid rfl 25 (.tmp 12) (.tmp 40) rfl w1.heap.size 0 M5 rfl rfl HT.out.1 HT.out.2.2.1 HM.out.2.2.1 ?_)
        | (refine wpList_store_mid rfl 25 (.tmp 13) (.tmp 41) rfl (w1.heap.size + 1) 0 D5 rfl rfl HT.out.2.1 HT.out.2.2.2 HM.out.2.2.2.2.2 ?_))
      have HB2 : Hid ((Below w.heap.size w ((((w1.alloc (.cells #[.int .u64 0, .int .u64 0, .int .u64 0, .int .u64 0, .int .u64 0] 25)).alloc (.cells #[.int .u64 0, .int .u64 0, .int .u64 0, .int .u64 0, .int .u64 0] 25)).setCells w1.heap.size 0 M5.toList).setCells (w1.heap.size + 1) 0 D5.toList) ∧ Blk ((((w1.alloc (.cells #[.int .u64 0, .int .u64 0, .int .u64 0, .int .u64 0, .int .u64 0] 25)).alloc (.cells #[.int .u64 0, .int .u64 0, .int .u64 0, .int .u64 0, .int .u64 0] 25)).setCells w1.heap.size 0 M5.toList).setCells (w1.heap.size + 1) 0 D5.toList) w.heap.size #[.int .u64 (rh 0), .int .u64 (rl 0), .int .u64 (rh 1), .int .u64 (rl 1), .int .u64 (rh 2), .int .u64 (rl 2), .int .u64 (rh 3), .int .u64 (rl 3)] 24 ∧ Blk ((((w1.alloc (.cells #[.int .u64 0, .int .u64 0, .int .u64 0, .int .u64 0, .int .u64 0] 25)).alloc (.cells #[.int .u64 0, .int .u64 0, .int .u64 0, .int .u64 0, .int .u64 0] 25)).setCells w1.heap.size 0 M5.toList).setCells (w1.heap.size + 1) 0 D5.toList) (w.heap.size + 1) #[.int .u64 ph, .int .u64 pl] 23 ∧ Blk ((((w1.alloc (.cells #[.int .u64 0, .int .u64 0, .int .u64 0, .int .u64 0, .int .u64 0] 25)).alloc (.cells #[.int .u64 0, .int .u64 0, .int .u64 0, .int .u64 0, .int .u64 0] 25)).setCells w1.heap.size 0 M5.toList).setCells (w1.heap.size + 1) 0 D5.toList) (w.heap.size + 1 + 1) #[.int .u64 (A 0), .int .u64 (A 1), .int .u64 (A 2), .int .u64 (A 3), .int .u64 (A 4)] 25 ∧ Blk ((((w1.alloc (.cells #[.int .u64 0, .int .u64 0, .int .u64 0, .int .u64 0, .int .u64 0] 25)).alloc (.cells #[.int .u64 0, .int .u64 0, .int .u64 0, .int .u64 0, .int .u64 0] 25)).setCells w1.heap.size 0 M5.toList).setCells (w1.heap.size + 1) 0 D5.toList) (w.heap.size + 1 + 1 + 1) #[.int .u64 (l 0 : Nat), .int .u64 (l 1 : Nat), .int .u64 (l 2 : Nat), .int .u64 (l 3 : Nat), .int .u64 (l 4 : Nat)] 25) ∧ ((((w1.alloc (.cells #[.int .u64 0, .int .u64 0, .int .u64 0, .int .u64 0, .int .u64 0] 25)).alloc (.cells #[.int .u64 0, .int .u64 0, .int .u64 0, .int .u64 0, .int .u64 0] 25)).setCells w1.heap.size 0 M5.toList).setCells (w1.heap.size + 1) 0 D5.toList).rangeAt w1.heap.size 0 [.int .u64 (mu 0 : Nat), .int .u64 (mu 1 : Nat), .int .u64 (mu 2 : Nat), .int .u64 (mu 3 : Nat), .int .u64 (mu 4 : Nat)] ∧ ((((w1.alloc (.cells #[.int .u64 0, .int .u64 0, .int .u64 0, .int .u64 0, .int .u64 0] 25)).alloc (.cells #[.int .u64 0, .int .u64 0, .int .u64 0, .int .u64 0, .int .u64 0] 25)).setCells w1.heap.size 0 M5.toList).setCells (w1.heap.size + 1) 0 D5.toList).rangeAt (w1.heap.size + 1) 0 [.int .u64 (dv 0 : Nat), .int .u64 (dv 1 : Nat), .int .u64 (dv 2 : Nat), .int .u64 (dv 3 : Nat), .int .u64 (dv 4 : Nat)]) := by
        obtain ⟨a1, a2, a3, a4, a5⟩ := HB1.out
        have hb : Below w1.heap.size w1 ((((w1.alloc (.cells #[.int .u64 0, .int .u64 0, .int .u64 0, .int .u64 0, .int .u64 0] 25)).alloc (.cells #[.int .u64 0, .int .u64 0, .int .u64 0, .int .u64 0, .int .u64 0] 25)).setCells w1.heap.size 0 M5.toList).setCells (w1.heap.size + 1) 0 D5.toList) := below_setCells (by omega) _ _ _ (below_setCells (Nat.le_refl _) _ _ _ (((Below.refl _ _).alloc (Nat.le_refl _) _).alloc (by simp) _))
        have t1 := HT.out.1
        have t2 := HT.out.2.1
        have r1 : ((((w1.alloc (.cells #[.int .u64 0, .int .u64 0, .int .u64 0, .int .u64 0, .int .u64 0] 25)).alloc (.cells #[.int .u64 0, .int .u64 0, .int .u64 0, .int .u64 0, .int .u64 0] 25)).setCells w1.heap.size 0 M5.toList).setCells (w1.heap.size + 1) 0 D5.toList).rangeAt w1.heap.size 0 M5.toList := World.rangeAt_setCells_apart (World.rangeAt_setCells_same _ _ _ _ (by rw [Array.length_toList]; exact t1)) _ _ _ (Or.inl (by omega))
        have r2 : ((((w1.alloc (.cells #[.int .u64 0, .int .u64 0, .int .u64 0, .int .u64 0, .int .u64 0] 25)).alloc (.cells #[.int .u64 0, .int .u64 0, .int .u64 0, .int .u64 0, .int .u64 0] 25)).setCells w1.heap.size 0 M5.toList).setCells (w1.heap.size + 1) 0 D5.toList).rangeAt (w1.heap.size + 1) 0 D5.toList := World.rangeAt_setCells_same _ _ _ _ (by rw [Array.length_toList]; exact t2)
        refine ⟨⟨a1.trans (hb.mono a1.size), a2.below hb, a3.below hb, a4.below hb, a5.below hb⟩, ?_, ?_⟩
        · intro j v hv; exact r1 j v (by rw [HM.out.1]; exact hv)
        · intro j v hv; exact r2 j v (by rw [HM.out.2.2.2.1]; exact hv)
      generalize ((((w1.alloc (.cells #[.int .u64 0, .int .u64 0, .int .u64 0, .int .u64 0, .int .u64 0] 25)).alloc (.cells #[.int .u64 0, .int .u64 0, .int .u64 0, .int .u64 0, .int .u64 0] 25)).setCells w1.heap.size 0 M5.toList).setCells (w1.heap.size + 1) 0 D5.toList) = W2 at *
      generalize w1.heap.size = b12 at *
      clear HB1 HT
      have HI8 : Hid ((Try.prog.info? 24).map (·.size) = some ([.int .u64 (rh 0), .int .u64 (rl 0), .int .u64 (rh 1), .int .u64 (rl 1), .int .u64 (rh 2), .int .u64 (rl 2), .int .u64 (rh 3), .int .u64 (rl 3)] : List Value).length ∧ (Try.prog.info? 23).map (·.size) = some ([.int .u64 ph, .int .u64 pl] : List Value).length ∧ (Try.prog.info? 25).map (·.size) = some ([.int .u64 (A 0), .int .u64 (A 1), .int .u64 (A 2), .int .u64 (A 3), .int .u64 (A 4)] : List Value).length ∧ (Try.prog.info? 25).map (·.size) = some ([.int .u64 (mu 0 : Nat), .int .u64 (mu 1 : Nat), .int .u64 (mu 2 : Nat), .int .u64 (mu 3 : Nat), .int .u64 (mu 4 : Nat)] : List Value).length ∧ (Try.prog.info? 25).map (·.size) = some ([.int .u64 (dv 0 : Nat), .int .u64 (dv 1 : Nat), .int .u64 (dv 2 : Nat), .int .u64 (dv 3 : Nat), .int .u64 (dv 4 : Nat)] : List Value).length) := ⟨Try.size24, Try.size23, Try.size25, Try.size25, Try.size25⟩
      go_wp2_with (first
        | (refine wpList_load_mid rfl 25 (.tmp 8) rfl (w.heap.size + 1 + 1 + 1) 0 rfl [.int .u64 (l 0 : Nat), .int .u64 (l 1 : Nat), .int .u64 (l 2 : Nat), .int .u64 (l 3 : Nat), .int .u64 (l 4 : Nat)] _ HB2.out.1.2.2.2.2.range Try.underlying25 rfl HI5.out ?_)
        | (refine wpList_load_mid rfl 25 (.tmp 12) rfl b12 0 rfl [.int .u64 (mu 0 : Nat), .int .u64 (mu 1 : Nat), .int .u64 (mu 2 : Nat), .int .u64 (mu 3 : Nat), .int .u64 (mu 4 : Nat)] _ HB2.out.2.1 Try.underlying25 rfl HI8.out.2.2.2.1 ?_)
        | (refine wpList_load_mid rfl 25 (.tmp 13) rfl (b12 + 1) 0 rfl [.int .u64 (dv 0 : Nat), .int .u64 (dv 1 : Nat), .int .u64 (dv 2 : Nat), .int .u64 (dv 3 : Nat), .int .u64 (dv 4 : Nat)] _ HB2.out.2.2 Try.underlying25 rfl HI8.out.2.2.2.2 ?_)
        | (refine wpList_load_mid rfl 24 (.tmp 5) rfl w.heap.size 0 rfl [.int .u64 (rh 0), .int .u64 (rl 0), .int .u64 (rh 1), .int .u64 (rl 1), .int .u64 (rh 2), .int .u64 (rl 2), .int .u64 (rh 3), .int .u64 (rl 3)] _ HB2.out.1.2.1.range Try.underlying24 rfl HI8.out.1 ?_)
        | (refine wpList_load_mid rfl 23 (.tmp 6) rfl (w.heap.size + 1) 0 rfl [.int .u64 ph, .int .u64 pl] _ HB2.out.1.2.2.1.range Try.underlying23 rfl HI8.out.2.1 ?_)
        | (refine wpList_load_mid rfl 25 (.tmp 7) rfl (w.heap.size + 1 + 1) 0 rfl [.int .u64 (A 0), .int .u64 (A 1), .int .u64 (A 2), .int .u64 (A 3), .int .u64 (A 4)] _ HB2.out.1.2.2.2.1.range Try.underlying25 rfl HI8.out.2.2.1 ?_))
      have hok := scale_ok HSC.out HW.out.2.1 HW.out.2.2.1 (fun i hi => (HLm.out i hi).2)
      refine (zz_any (fun i => (l i : Int)) A (fun i => (mu i : Int)) (fun i => (dv i : Int)) rh rl (f : Int) ph pl folded HW.out.1 hok.1 hok.2 HW.out.2.2.2.1 ⟨by omega, by have := HW.out.2.2.2.2; omega⟩ (by omega) _).mono ?_
      clear hok
      rintro e w3 ⟨⟨fee, ok, rfl, hfee, hR⟩, hb⟩
      have HR : Hid (Word fee ∧ Right (NN rh rl A (V2 ph pl) (f : Int)) (fun k => (l k : Int)) fee ok) := ⟨hfee, right_back (fun k hk => (HSC.out k hk).1) hR⟩
      have HB3 : Hid (Below w.heap.size w w3 ∧ Blk w3 w.heap.size #[.int .u64 (rh 0), .int .u64 (rl 0), .int .u64 (rh 1), .int .u64 (rl 1), .int .u64 (rh 2), .int .u64 (rl 2), .int .u64 (rh 3), .int .u64 (rl 3)] 24 ∧ Blk w3 (w.heap.size + 1) #[.int .u64 ph, .int .u64 pl] 23 ∧ Blk w3 (w.heap.size + 1 + 1) #[.int .u64 (A 0), .int .u64 (A 1), .int .u64 (A 2), .int .u64 (A 3), .int .u64 (A 4)] 25 ∧ Blk w3 (w.heap.size + 1 + 1 + 1) #[.int .u64 (l 0 : Nat), .int .u64 (l 1 : Nat), .int .u64 (l 2 : Nat), .int .u64 (l 3 : Nat), .int .u64 (l 4 : Nat)] 25) := by
        obtain ⟨a1, a2, a3, a4, a5⟩ := HB2.out.1
        exact ⟨a1.trans (hb.mono a1.size), a2.below hb, a3.below hb, a4.below hb, a5.below hb⟩
      clear hfee hR hb HB2
      go_wp2_with (first
        | (refine wpList_load_mid rfl 25 (.tmp 8) rfl (w.heap.size + 1 + 1 + 1) 0 rfl [.int .u64 (l 0 : Nat), .int .u64 (l 1 : Nat), .int .u64 (l 2 : Nat), .int .u64 (l 3 : Nat), .int .u64 (l 4 : Nat)] _ HB3.out.2.2.2.2.range Try.underlying25 rfl HI5.out ?_)
        | (refine wpList_load_mid rfl 24 (.tmp 5) rfl w.heap.size 0 rfl [.int .u64 (rh 0), .int .u64 (rl 0), .int .u64 (rh 1), .int .u64 (rl 1), .int .u64 (rh 2), .int .u64 (rl 2), .int .u64 (rh 3), .int .u64 (rl 3)] _ HB3.out.2.1.range Try.underlying24 rfl HI8.out.1 ?_)
        | (refine wpList_load_mid rfl 23 (.tmp 6) rfl (w.heap.size + 1) 0 rfl [.int .u64 ph, .int .u64 pl] _ HB3.out.2.2.1.range Try.underlying23 rfl HI8.out.2.1 ?_)
        | (refine wpList_load_mid rfl 25 (.tmp 7) rfl (w.heap.size + 1 + 1) 0 rfl [.int .u64 (A 0), .int .u64 (A 1), .int .u64 (A 2), .int .u64 (A 3), .int .u64 (A 4)] _ HB3.out.2.2.2.1.range Try.underlying25 rfl HI8.out.2.2.1 ?_))
      refine (ans_any rh rl A (fun i => (l i : Int)) ph pl (f : Int) fee ok HW.out.1 HW.out.2.1 (fun i => ⟨by omega, by have := HW.out.2.2.1 i; omega⟩) (fun i hi => by have := (HLm.out i hi).1; omega) HW.out.2.2.2.1 ⟨by omega, by have := HW.out.2.2.2.2; omega⟩ HR.out.1 HR.out.2 _).mono ?_
      rintro e w4 ⟨rfl, hb⟩
      have HB4 : Hid (Below w.heap.size w w4) := HB3.out.1.trans (hb.mono HB3.out.1.size)
      clear hb HB3
      go_wp2_with fail
      go_ret
      exact ⟨rfl, HB4.out⟩
end Go.Proofs.Qxb6616476a
