import Derived.Test.Qxb6616491aAny
namespace Go.Proofs.Qxb6616491a
open Go.RowKit Go.Deep

theorem below_drews (B : Nat) (w : World) (n : Nat) : Below B w (w.drewN n) := ⟨rfl, rfl, rfl, Nat.le_refl _, fun _ _ => rfl⟩

set_option maxHeartbeats 1000000 in
theorem same_ptr (g1 n1 c1 i g2 n2 c2 j : Nat) (a : Addr) (w : World) (hi : (i : Int) < (n1 : Int)) (hj : (j : Int) < (n2 : Int)) (h1 : w.cell? ⟨g1, i, none⟩ = some (.iface 25 (.pointer (some a)))) (h2 : w.cell? ⟨g2, j, none⟩ = some (.iface 25 (.pointer (some a)))) :
    Calls Try.prog 17 #[.slice (some ⟨g1, 0, none⟩) n1 c1, .int .i64 i, .slice (some ⟨g2, 0, none⟩) n2 c2, .int .i64 j] w fun e w' => e = .returned (.bool true) ∧ ∃ n, w' = w.drewN n := by
  have n1 := eql_same
  go_enter Try.func17, Try.ntmps17
  go_wp2
  go_quiet ((go_at_call 14; exact Calls.quiet_of_same (asBin_ptr _ _)))
  go_wp2
  go_ret
  exact ⟨rfl, _, rfl⟩

set_option maxHeartbeats 1000000 in
theorem same_nil (g1 n1 c1 i g2 n2 c2 j : Nat) (w : World) (hi : (i : Int) < (n1 : Int)) (hj : (j : Int) < (n2 : Int)) (h1 : w.cell? ⟨g1, i, none⟩ = some .nilIface) (h2 : w.cell? ⟨g2, j, none⟩ = some .nilIface) :
    Calls Try.prog 17 #[.slice (some ⟨g1, 0, none⟩) n1 c1, .int .i64 i, .slice (some ⟨g2, 0, none⟩) n2 c2, .int .i64 j] w fun e w' => e = .returned (.bool true) ∧ ∃ n, w' = w.drewN n := by
  go_enter Try.func17, Try.ntmps17
  go_wp2
  go_quiet ((go_at_call 14; exact Calls.quiet_of_same (asBin_nil _)))
  go_wp2
  go_ret
  exact ⟨rfl, _, rfl⟩

/-- a term: nil, or a node -/
def isE (v : Value) : Prop := v = .nilIface ∨ ∃ a, v = .iface 25 (.pointer (some a))
theorem conj_isE : ∀ T : BT ByteArray, ∀ u ∈ conj T, isE u
  | .nil => by intro u hu; simp [conj] at hu; exact .inl hu
  | .node b o op l r => by
    unfold conj
    split
    · intro u hu
      rcases List.mem_append.1 hu with h | h
      · exact conj_isE l u h
      · exact conj_isE r u h
    · intro u hu
      simp at hu
      exact .inr ⟨_, hu⟩

theorem same_any (g1 n1 c1 i g2 n2 c2 j : Nat) (v : Value) (w : World) (hv : isE v) (hi : i < n1) (hj : j < n2) (h1 : w.cell? ⟨g1, i, none⟩ = some v) (h2 : w.cell? ⟨g2, j, none⟩ = some v) :
    Calls Try.prog 17 #[.slice (some ⟨g1, 0, none⟩) n1 c1, .int .i64 i, .slice (some ⟨g2, 0, none⟩) n2 c2, .int .i64 j] w fun e w' => e = .returned (.bool true) ∧ ∃ n, w' = w.drewN n := by
  rcases hv with rfl | ⟨a, rfl⟩
  · exact same_nil g1 n1 c1 i g2 n2 c2 j w (by omega) (by omega) h1 h2
  · exact same_ptr g1 n1 c1 i g2 n2 c2 j a w (by omega) (by omega) h1 h2

set_option maxHeartbeats 1000000 in
theorem concat_any (g n c g1 n1 c1 g2 n2 c2 : Nat) (xs ys : List Value) (w : World) (hx : ∀ u ∈ xs, isE u) (hy : ∀ u ∈ ys, isE u) (e1 : xs.length = n1) (e2 : ys.length = n2) (e : n = n1 + n2) (b1 : n1 ≤ 8192) (b2 : n2 ≤ 8192)
    (R : Row w g (xs ++ ys)) (R1 : Row w g1 xs) (R2 : Row w g2 ys) :
    Calls Try.prog 13 #[.slice (some ⟨g, 0, none⟩) n c, .slice (some ⟨g1, 0, none⟩) n1 c1, .slice (some ⟨g2, 0, none⟩) n2 c2] w fun e w' => e = .returned (.bool true) ∧ Below w.heap.size w w' := by
  have HX : Hid ((∀ u ∈ xs, isE u) ∧ (∀ u ∈ ys, isE u) ∧ xs.length = n1 ∧ ys.length = n2) := ⟨hx, hy, e1, e2⟩
  have HR : Hid (Row w g (xs ++ ys) ∧ Row w g1 xs ∧ Row w g2 ys) := ⟨R, R1, R2⟩
  clear hx hy e1 e2 R R1 R2
  subst e
  go_enter Try.func13, Try.ntmps13
  go_wp2_with fail
  go_loopw [7] (fun i w' => ∃ k : Nat, k ≤ n1 ∧ i = .int .i64 k ∧ Below w.heap.size w w') (fun i _ => n1 - (intOf i).toNat)
  case atStart => exact ⟨0, Nat.zero_le _, rfl, Below.refl _ _⟩
  case round =>
    obtain ⟨k, hk, rfl, hb⟩ := hrel
    have HB : Hid (Below w.heap.size w wr) := hb
    clear hb
    by_cases hlt : k < n1
    · obtain ⟨u, hu⟩ : ∃ u, xs[k]? = some u := ⟨xs[k]'(by have := HX.out.2.2.1; omega), by simp⟩
      have S : Hid (Calls Try.prog 17 #[.slice (some ⟨g, 0, none⟩) (n1 + n2) c, .int .i64 k, .slice (some ⟨g1, 0, none⟩) n1 c1, .int .i64 k] wr fun e w' => e = .returned (.bool true) ∧ ∃ n, w' = wr.drewN n) :=
        same_any g (n1 + n2) c k g1 n1 c1 k u wr (HX.out.1 u (List.mem_of_getElem? hu)) (by omega) hlt ((row_below HB.out HR.out.1).2 k u (by rw [List.getElem?_append_left (by have := HX.out.2.2.1; omega)]; exact hu)) ((row_below HB.out HR.out.2.1).2 k u hu)
      clear hu
      go_wp2_with fail
      refine S.out.mono ?_
      clear S
      rintro e w1 ⟨rfl, nq, rfl⟩
      go_wp2_with fail
      exact ⟨⟨k + 1, by omega, by go_num, HB.out.trans (below_drews _ _ _)⟩, by simp [intOf]; omega⟩
    · go_wp2_with fail
      go_loopw [8] (fun i w' => ∃ k : Nat, k ≤ n2 ∧ i = .int .i64 k ∧ Below w.heap.size w w') (fun i _ => n2 - (intOf i).toNat)
      case atStart => exact ⟨0, Nat.zero_le _, rfl, HB.out⟩
      case round =>
        obtain ⟨j, hj, rfl, hb⟩ := hrel
        have HB2 : Hid (Below w.heap.size w wr) := hb
        clear hb
        by_cases hlt2 : j < n2
        · obtain ⟨u, hu⟩ : ∃ u, ys[j]? = some u := ⟨ys[j]'(by have := HX.out.2.2.2; omega), by simp⟩
          have S : Hid (Calls Try.prog 17 #[.slice (some ⟨g, 0, none⟩) (n1 + n2) c, .int .i64 ((n1 + j : Nat) : Int), .slice (some ⟨g2, 0, none⟩) n2 c2, .int .i64 j] wr fun e w' => e = .returned (.bool true) ∧ ∃ n, w' = wr.drewN n) :=
            same_any g (n1 + n2) c (n1 + j) g2 n2 c2 j u wr (HX.out.2.1 u (List.mem_of_getElem? hu)) (by omega) hlt2 ((row_below HB2.out HR.out.1).2 (n1 + j) u (by rw [List.getElem?_append_right (by have := HX.out.2.2.1; omega)]; have := HX.out.2.2.1; rw [show n1 + j - xs.length = j from by omega]; exact hu)) ((row_below HB2.out HR.out.2.2).2 j u hu)
          clear hu
          go_wp2_with fail
          rw [show ((n1 : Int) + (j : Int)) = ((n1 + j : Nat) : Int) from by omega]
          refine S.out.mono ?_
          clear S
          rintro e w1 ⟨rfl, nq, rfl⟩
          go_wp2_with fail
          exact ⟨⟨j + 1, by omega, by go_num, HB2.out.trans (below_drews _ _ _)⟩, by simp [intOf]; omega⟩
        · go_wp2_with fail
          go_ret
          exact ⟨rfl, HB2.out⟩
end Go.Proofs.Qxb6616491a
