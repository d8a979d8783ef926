import Derived.Test.Qxb6616491aSame
namespace Go.Proofs.Qxb6616491a
open Go.RowKit Go.Deep

theorem eql25_nil (p : Option Addr) (w : World) : (binOp .eql 25 (.pointer p) (.pointer none)).run Try.prog w = .ok (.bool p.isNone) w := run_eql_pointer_nil w 25 p Try.underlying25

theorem ptr_val : ∀ T : BT ByteArray, (T.ptr = .pointer none ∧ val T = .nilIface) ∨ ∃ a, T.ptr = .pointer (some a) ∧ val T = .iface 25 (.pointer (some a))
  | .nil => .inl ⟨rfl, rfl⟩
  | .node b o _ _ _ => .inr ⟨⟨b, o, none⟩, rfl, rfl⟩

/-- 'conjunctsOf' -/
theorem of_walk (T : BT ByteArray) (xs : List Value) (w : World) (H : Hid (Calls Try.prog 7 #[val T] w (Gives w xs))) : Calls Try.prog 12 #[T.ptr] w (Gives w xs) := by
  rcases ptr_val T with ⟨h1, h2⟩ | ⟨a, h1, h2⟩
  · rw [h1]
    rw [h2] at H
    clear h1 h2
    go_enter Try.func12, Try.ntmps12
    go_wp2_with (go_at_call 7; refine H.out.mono ?_; rintro e w1 ⟨g1, cap1, rfl, own1, hb1, lo1, hi1⟩)
    go_ret
    exact ⟨g1, cap1, rfl, own1, hb1, lo1, hi1⟩
  · rw [h1]
    rw [h2] at H
    clear h1 h2
    go_enter Try.func12, Try.ntmps12
    go_wp2_with (go_at_call 7; refine H.out.mono ?_; rintro e w1 ⟨g1, cap1, rfl, own1, hb1, lo1, hi1⟩)
    go_ret
    exact ⟨g1, cap1, rfl, own1, hb1, lo1, hi1⟩
theorem of_any (T : BT ByteArray) (w : World) (h : rep w T) (hl : (conj T).length ≤ 1048576) : Calls Try.prog 12 #[T.ptr] w (Gives w (conj T)) :=
  of_walk T (conj T) w (zz_any T w h hl)

/-- each term is a tree of its own, whose one term it is -/
theorem term_tree {w : World} : ∀ T : BT ByteArray, rep w T → ∀ u ∈ conj T, ∃ T', val T' = u ∧ rep w T' ∧ conj T' = [u]
  | .nil, _ => by intro u hu; simp [conj] at hu; exact ⟨.nil, hu.symm, trivial, by rw [hu]; rfl⟩
  | .node b o op l r, h => by
    obtain ⟨h1, h2, h3, h4, h5, h6⟩ := h
    by_cases ha : isAnd op = true
    · rw [conj, if_pos ha]
      intro u hu
      rcases List.mem_append.1 hu with hu | hu
      · exact term_tree l h5 u hu
      · exact term_tree r h6 u hu
    · intro u hu
      have e : conj (.node b o op l r) = [.iface 25 (.pointer (some ⟨b, o, none⟩))] := by rw [conj, if_neg ha]
      rw [e] at hu
      simp at hu
      exact ⟨.node b o op l r, hu.symm, ⟨h1, h2, h3, h4, h5, h6⟩, by rw [e, hu]⟩

set_option maxHeartbeats 1000000 in
theorem fixed_walk (g n c k : Nat) (v : Value) (w : World) (hk : (k : Int) < (n : Int)) (hg : g < w.heap.size) (hc : w.cell? ⟨g, k, none⟩ = some v) (hv : isE v) (H : Hid (Calls Try.prog 7 #[v] w (Gives w [v]))) :
    Calls Try.prog 15 #[.slice (some ⟨g, 0, none⟩) n c, .int .i64 k] w fun e w' => e = .returned (.bool true) ∧ Below w.heap.size w w' := by
  have HV : Hid (isE v) := hv
  clear hv
  go_enter Try.func15, Try.ntmps15
  go_wp2_with fail
  refine H.out.mono ?_
  clear H
  rintro e w1 ⟨g1, cap1, rfl, own1, hb1, lo1, hi1⟩
  have S : Hid (Calls Try.prog 17 #[.slice (some ⟨g1, 0, none⟩) 1 cap1, .int .i64 ((0 : Nat) : Int), .slice (some ⟨g, 0, none⟩) n c, .int .i64 k] w1 fun e w' => e = .returned (.bool true) ∧ ∃ n, w' = w1.drewN n) :=
    same_any g1 1 cap1 0 g n c k v w1 HV.out (by omega) (by omega) ((row_of_own own1 hi1).2 0 v rfl) ((hb1.cell (p := ⟨g, k, none⟩) hg).trans hc)
  have HB : Hid (Below w.heap.size w w1) := hb1
  clear own1 hb1 lo1 hi1
  go_wp2_with fail
  refine S.out.mono ?_
  clear S
  rintro e w2 ⟨rfl, nq, rfl⟩
  go_wp2_with fail
  go_ret
  exact ⟨rfl, HB.out.trans (below_drews _ _ _)⟩

theorem fixed_any (T : BT ByteArray) (g n c k : Nat) (v : Value) (w : World) (hk : k < n) (hg : Row w g (conj T)) (hu : (conj T)[k]? = some v) (hr : rep w T) :
    Calls Try.prog 15 #[.slice (some ⟨g, 0, none⟩) n c, .int .i64 k] w fun e w' => e = .returned (.bool true) ∧ Below w.heap.size w w' := by
  obtain ⟨T', e1, e2, e3⟩ := term_tree T hr v (List.mem_of_getElem? hu)
  refine fixed_walk g n c k v w (by omega) hg.1 (hg.2 k v hu) (conj_isE T v (List.mem_of_getElem? hu)) ?_
  have := zz_any T' w e2 (by rw [e3]; simp)
  rw [e1, e3] at this
  exact this
end Go.Proofs.Qxb6616491a
