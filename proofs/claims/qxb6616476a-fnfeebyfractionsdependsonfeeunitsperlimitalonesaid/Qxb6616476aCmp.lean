import Derived.Test.Qxb6616476aRow
namespace Go.Proofs.Qxb6616476a
open Go.RowKit Go.Lib

set_option maxRecDepth 100000 in
set_option maxHeartbeats 4000000 in
theorem natCmp_any (xs ys : List Int) (la : xs.length = 24) (lb : ys.length = 24) (da : Digs xs) (db : Digs ys) (w : World) : Calls Try.prog 21 #[nv xs, nv ys] w fun e w' => e = .returned (.int .i64 (cmpI (val xs) (val ys))) ∧ Below w.heap.size w w' := by
  have HL : Hid (xs.length = 24 ∧ ys.length = 24 ∧ Digs xs ∧ Digs ys) := ⟨la, lb, da, db⟩
  clear la lb da db
  obtain ⟨A, hA⟩ : ∃ A, A = (xs.map (Value.int .u32)).toArray := ⟨_, rfl⟩
  obtain ⟨B, hB⟩ : ∃ B, B = (ys.map (Value.int .u32)).toArray := ⟨_, rfl⟩
  have eA : nv xs = .agg A := by rw [hA]; rfl
  have eB : nv ys = .agg B := by rw [hB]; rfl
  rw [eA, eB]
  have HR : Hid (Row ((w.alloc (.cells A 73)).alloc (.cells B 73)) w.heap.size xs ∧ Row ((w.alloc (.cells A 73)).alloc (.cells B 73)) (w.heap.size + 1) ys ∧ Below w.heap.size w ((w.alloc (.cells A 73)).alloc (.cells B 73))) := by
    have h1 := Row.new w xs HL.out.1
    have h2 := Row.new (w.alloc (.cells A 73)) ys HL.out.2.1
    simp only [World.size_alloc, ← hA, ← hB] at h1 h2
    exact ⟨h1.alloc _, h2, by go_grown⟩
  clear eA eB hA hB
  go_enter Try.func21, Try.ntmps21
  go_wp2_with fail
  generalize ((w.alloc (.cells A 73)).alloc (.cells B 73)) = W at *
  go_loopw [5] (fun v5 wx => ∃ (k : Nat) (i : Int), v5 = .int .i64 i ∧ i = (k : Int) - 1 ∧ k ≤ 24 ∧ Hid (xs.drop k = ys.drop k ∧ Below w.heap.size w wx ∧ Row wx w.heap.size xs ∧ Row wx (w.heap.size + 1) ys)) (fun v5 _ => (RowKit.intOf v5 + 1).toNat)
  case atStart => exact ⟨24, 23, rfl, by omega, by omega, by rw [List.drop_of_length_le (by have := HL.out.1; omega), List.drop_of_length_le (by have := HL.out.2.1; omega)], HR.out.2.2, HR.out.1, HR.out.2.1⟩
  case round =>
    clear HR
    obtain ⟨k, i, rfl, hi, hk, HI⟩ := hrel
    by_cases h0 : k = 0
    · subst h0
      have hi1 : i < 0 := by omega
      have hi2 : ¬ 0 ≤ i := by omega
      clear hi
      go_wp2_with fail
      go_returns
      refine ⟨?_, HI.out.2.1⟩
      have h := HI.out.1
      simp only [List.drop_zero] at h
      rw [h]
      simp [cmpI]
    · obtain ⟨j, rfl⟩ : ∃ j, k = j + 1 := ⟨k - 1, by omega⟩
      have hij : i = j := by omega
      subst hij
      have hj : j < 24 := by omega
      have c1 := HI.out.2.2.1.cell HL.out.1 hj
      have c2 := HI.out.2.2.2.cell HL.out.2.1 hj
      obtain ⟨x, hx⟩ : ∃ x, x = xs[j]'(by have := HL.out.1; omega) := ⟨_, rfl⟩
      obtain ⟨y, hy⟩ : ∃ y, y = ys[j]'(by have := HL.out.2.1; omega) := ⟨_, rfl⟩
      rw [← hx] at c1
      rw [← hy] at c2
      have HS : Hid (x = xs[j]'(by have := HL.out.1; omega) ∧ y = ys[j]'(by have := HL.out.2.1; omega)) := ⟨hx, hy⟩
      clear hx hy hi h0
      by_cases hxy : x = y
      · subst hxy
        go_wp2_with fail
        go_quiet (fail)
        go_wp2_with fail
        go_roundw
        case rel => exact ⟨j, (j : Int) - 1, by first | rfl | (congr 1), by omega, by omega, cmp_at_eq xs ys j (by have := HL.out.1; omega) (by have := HL.out.2.1; omega) HI.out.1 (HS.out.1.symm.trans HS.out.2), below_drewN HI.out.2.1 nq, HI.out.2.2.1.drewN nq, HI.out.2.2.2.drewN nq⟩
        case measure => simp [RowKit.intOf]
      · by_cases hlt : x < y
        · go_wp2_with fail
          go_quiet (fail)
          go_wp2_with fail
          go_quiet (fail)
          go_wp2_with fail
          go_ret
          refine ⟨?_, below_drewN (below_drewN HI.out.2.1 _) _⟩
          have h := cmp_at xs ys j (by have := HL.out.1; omega) (by have := HL.out.2.1; omega) HL.out.2.2.1 HL.out.2.2.2 HI.out.1 (by rw [← HS.out.1, ← HS.out.2]; exact hlt)
          unfold cmpI
          rw [if_neg (by omega), if_pos h]
          rfl
        · go_wp2_with fail
          go_quiet (fail)
          go_wp2_with fail
          go_quiet (fail)
          go_wp2_with fail
          go_ret
          refine ⟨?_, below_drewN (below_drewN HI.out.2.1 _) _⟩
          have h := cmp_at ys xs j (by have := HL.out.2.1; omega) (by have := HL.out.1; omega) HL.out.2.2.2 HL.out.2.2.1 HI.out.1.symm (by rw [← HS.out.1, ← HS.out.2]; omega)
          unfold cmpI
          rw [if_neg (by omega), if_neg (by omega)]
          rfl
end Go.Proofs.Qxb6616476a
