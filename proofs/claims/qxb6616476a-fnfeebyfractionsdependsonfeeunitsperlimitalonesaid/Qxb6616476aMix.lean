import Derived.Test.Qxb6616476aQuo
import Derived.Test.Qxb6616476aGcd
namespace Go.Proofs.Qxb6616476a
open Go.RowKit Go.Lib

/-- wideMul, its words written out -/
theorem wideE (a b : Int) (ha : Word a) (hb : Word b) (w : World) :
    Calls Try.prog 43 #[.int .u64 a, .int .u64 b] w fun e w' => e = .returned (.agg #[.int .u64 (a * b / 18446744073709551616), .int .u64 (a * b % 18446744073709551616)]) ∧ Below w.heap.size w w' := by
  refine (wideMul64 a b ha hb w).mono ?_
  rintro e w' ⟨⟨h, l, rfl, hh, hl, e1⟩, hb⟩
  obtain ⟨l1, l2⟩ := hl
  unfold V2 at e1
  have e2 : a * b / 18446744073709551616 = h := by omega
  have e3 : a * b % 18446744073709551616 = l := by omega
  exact ⟨by rw [e2, e3], hb⟩
theorem word_lo (x : Int) : Word (x % 18446744073709551616) := ⟨by omega, by omega⟩
theorem V2_split (x : Int) : V2 (x / 18446744073709551616) (x % 18446744073709551616) = x := by unfold V2; omega

theorem Blk.below' {w w0 w' : World} {b : Nat} {cs : Array Value} {t : TypeId} (h : Blk w b cs t) (e : w0.heap = w.heap) (hb : Below w0.heap.size w0 w') : Blk w' b cs t := by
  have h2 : Blk w0 b cs t := by
    unfold Blk at *
    rw [e]
    exact h
  exact h2.below hb

set_option maxHeartbeats 4000000 in
/-- (mixed256).cmp -/
theorem mixCmp (a3 a2 a1 a0 an ad b3 b2 b1 b0 bn bd : Int) (h2 : Word a2) (h1 : Word a1) (h0 : Word a0) (hn : Word an) (hd : Word ad) (g2 : Word b2) (g1 : Word b1) (g0 : Word b0) (gn : Word bn) (gd : Word bd) (w : World) :
    Calls Try.prog 33 #[.agg #[.int .u64 a3, .int .u64 a2, .int .u64 a1, .int .u64 a0, .int .u64 an, .int .u64 ad], .agg #[.int .u64 b3, .int .u64 b2, .int .u64 b1, .int .u64 b0, .int .u64 bn, .int .u64 bd]] w fun e w' =>
      e = .returned (.int .i64 (if cmpI (V4 a3 a2 a1 a0) (V4 b3 b2 b1 b0) = 0 then cmpI (an * bd) (bn * ad) else cmpI (V4 a3 a2 a1 a0) (V4 b3 b2 b1 b0))) ∧ Below w.heap.size w w' := by
  have HW : Hid ((Word a2 ∧ Word a1 ∧ Word a0 ∧ Word an ∧ Word ad) ∧ (Word b2 ∧ Word b1 ∧ Word b0 ∧ Word bn ∧ Word bd)) := ⟨⟨h2, h1, h0, hn, hd⟩, ⟨g2, g1, g0, gn, gd⟩⟩
  clear h2 h1 h0 hn hd g2 g1 g0 gn gd
  have HB0 : Hid (Below w.heap.size w ((w.alloc (.cells #[.int .u64 a3, .int .u64 a2, .int .u64 a1, .int .u64 a0, .int .u64 an, .int .u64 ad] 95)).alloc (.cells #[.int .u64 b3, .int .u64 b2, .int .u64 b1, .int .u64 b0, .int .u64 bn, .int .u64 bd] 95)) ∧
      Blk ((w.alloc (.cells #[.int .u64 a3, .int .u64 a2, .int .u64 a1, .int .u64 a0, .int .u64 an, .int .u64 ad] 95)).alloc (.cells #[.int .u64 b3, .int .u64 b2, .int .u64 b1, .int .u64 b0, .int .u64 bn, .int .u64 bd] 95)) w.heap.size #[.int .u64 a3, .int .u64 a2, .int .u64 a1, .int .u64 a0, .int .u64 an, .int .u64 ad] 95 ∧
      Blk ((w.alloc (.cells #[.int .u64 a3, .int .u64 a2, .int .u64 a1, .int .u64 a0, .int .u64 an, .int .u64 ad] 95)).alloc (.cells #[.int .u64 b3, .int .u64 b2, .int .u64 b1, .int .u64 b0, .int .u64 bn, .int .u64 bd] 95)) (w.heap.size + 1) #[.int .u64 b3, .int .u64 b2, .int .u64 b1, .int .u64 b0, .int .u64 bn, .int .u64 bd] 95) := by
    refine ⟨by go_grown, (Blk.new _ _ _).alloc _, ?_⟩
    have h := Blk.new (w.alloc (.cells #[.int .u64 a3, .int .u64 a2, .int .u64 a1, .int .u64 a0, .int .u64 an, .int .u64 ad] 95)) #[.int .u64 b3, .int .u64 b2, .int .u64 b1, .int .u64 b0, .int .u64 bn, .int .u64 bd] 95
    simp only [World.size_alloc] at h
    exact h
  go_enter Try.func33, Try.ntmps33
  go_wp2_with fail
  refine (cmp256 a3 a2 a1 a0 b3 b2 b1 b0 HW.out.1.1 HW.out.1.2.1 HW.out.1.2.2.1 HW.out.2.1 HW.out.2.2.1 HW.out.2.2.2.1 _).mono ?_
  rintro e w1 ⟨rfl, hb⟩
  have HB1 : Hid (Below w.heap.size w w1 ∧ Blk w1 w.heap.size #[.int .u64 a3, .int .u64 a2, .int .u64 a1, .int .u64 a0, .int .u64 an, .int .u64 ad] 95 ∧ Blk w1 (w.heap.size + 1) #[.int .u64 b3, .int .u64 b2, .int .u64 b1, .int .u64 b0, .int .u64 bn, .int .u64 bd] 95) := ⟨HB0.out.1.trans (hb.mono HB0.out.1.size), HB0.out.2.1.below hb, HB0.out.2.2.below hb⟩
  clear HB0 hb
  by_cases hz : cmpI (V4 a3 a2 a1 a0) (V4 b3 b2 b1 b0) = 0
  · have hz' : (cmpI (V4 a3 a2 a1 a0) (V4 b3 b2 b1 b0) != 0) = false := by simpa using hz
    have x4 := HB1.out.2.1.cell 4
    have x5 := HB1.out.2.1.cell 5
    have y4 := HB1.out.2.2.cell 4
    have y5 := HB1.out.2.2.cell 5
    simp at x4 x5 y4 y5
    have HA : Blk w1 w.heap.size #[.int .u64 a3, .int .u64 a2, .int .u64 a1, .int .u64 a0, .int .u64 an, .int .u64 ad] 95 := HB1.out.2.1
    have HC : Blk w1 (w.heap.size + 1) #[.int .u64 b3, .int .u64 b2, .int .u64 b1, .int .u64 b0, .int .u64 bn, .int .u64 bd] 95 := HB1.out.2.2
    have HD : Below w.heap.size w w1 := HB1.out.1
    go_wp2_with fail
    go_region_held3 (fun w' => w'.cell? ⟨w.heap.size, 4, none⟩ = some (.int .u64 an) ∧ w'.cell? ⟨w.heap.size, 5, none⟩ = some (.int .u64 ad) ∧ w'.cell? ⟨w.heap.size + 1, 4, none⟩ = some (.int .u64 bn) ∧ w'.cell? ⟨w.heap.size + 1, 5, none⟩ = some (.int .u64 bd)) (first | exact ⟨HA.cell 4, HA.cell 5, HC.cell 4, HC.cell 5⟩ | simp [go_sem, *])
      (first
        | (go_at_call 43; (with_reducible refine Calls.mono (wideE an bd HW.out.1.2.2.2.1 HW.out.2.2.2.2.2 _) ?_); rintro e w2 ⟨rfl, hb⟩; (have HA : Blk w2 w.heap.size #[.int .u64 a3, .int .u64 a2, .int .u64 a1, .int .u64 a0, .int .u64 an, .int .u64 ad] 95 := by (refine Blk.below' HA ?_ hb; exact rfl)); (have HC : Blk w2 (w.heap.size + 1) #[.int .u64 b3, .int .u64 b2, .int .u64 b1, .int .u64 b0, .int .u64 bn, .int .u64 bd] 95 := by (refine Blk.below' HC ?_ hb; exact rfl)); (first | have HD := HD.trans (hb.mono HD.size) | have HD := HD.drew.trans (hb.mono HD.drew.size)); clear hb)
        | (go_at_call 43; (with_reducible refine Calls.mono (wideE bn ad HW.out.2.2.2.2.1 HW.out.1.2.2.2.2 _) ?_); rintro e w3 ⟨rfl, hb⟩; (have HA : Blk w3 w.heap.size #[.int .u64 a3, .int .u64 a2, .int .u64 a1, .int .u64 a0, .int .u64 an, .int .u64 ad] 95 := by (refine Blk.below' HA ?_ hb; exact rfl)); (have HC : Blk w3 (w.heap.size + 1) #[.int .u64 b3, .int .u64 b2, .int .u64 b1, .int .u64 b0, .int .u64 bn, .int .u64 bd] 95 := by (refine Blk.below' HC ?_ hb; exact rfl)); (first | have HD := HD.trans (hb.mono HD.size) | have HD := HD.drew.trans (hb.mono HD.drew.size)); clear hb)
        | (go_at_call 44; refine Calls.mono (cmp128 (an * bd / 18446744073709551616) (an * bd % 18446744073709551616) (bn * ad / 18446744073709551616) (bn * ad % 18446744073709551616) (word_lo _) (word_lo _) _) ?_; rintro e w4 ⟨rfl, hb⟩; (have HA : Blk w4 w.heap.size #[.int .u64 a3, .int .u64 a2, .int .u64 a1, .int .u64 a0, .int .u64 an, .int .u64 ad] 95 := by (refine Blk.below' HA ?_ hb; exact rfl)); (have HC : Blk w4 (w.heap.size + 1) #[.int .u64 b3, .int .u64 b2, .int .u64 b1, .int .u64 b0, .int .u64 bn, .int .u64 bd] 95 := by (refine Blk.below' HC ?_ hb; exact rfl)); (first | have HD := HD.trans (hb.mono HD.size) | have HD := HD.drew.trans (hb.mono HD.drew.size)); clear hb))
    all_goals go_wp2_with fail
    all_goals go_ret
    have HE : cmpI (V2 (an * bd / 18446744073709551616) (an * bd % 18446744073709551616)) (V2 (bn * ad / 18446744073709551616) (bn * ad % 18446744073709551616)) = cmpI (an * bd) (bn * ad) := by rw [V2_split, V2_split]
    refine ⟨?_, HD⟩
    first
      | (rw [if_pos hz, ← HE]; rfl)
      | (rw [← HE]; rfl)
  · have hz' : (cmpI (V4 a3 a2 a1 a0) (V4 b3 b2 b1 b0) != 0) = true := by simpa using hz
    go_wp2_with fail
    go_ret
    exact ⟨by first | rfl | (rw [if_neg hz]; rfl), HB1.out.1⟩
end Go.Proofs.Qxb6616476a
