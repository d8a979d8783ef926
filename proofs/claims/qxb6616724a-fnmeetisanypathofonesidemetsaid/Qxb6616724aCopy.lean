import Derived.Test.Qxb6616724aMeet
namespace Go.Proofs.Qxb6616724a
open Go.RowKit

theorem Try.info9 : ∃ i, Try.prog.info? 9 = some i ∧ i.zero = some (.string ⟨#[]⟩) ∧ i.size = 1 ∧ i.bytes = 16 := info_parts (by kernel_rfl)
theorem Try.size9 : (Try.prog.info? 9).map (·.size) = some 1 := by kernel_rfl
theorem make_strs (n : Nat) (hm : n ≤ 4096) (w : World) : (Instr.makeSlice 22 (.int .i64 n) (.int .i64 n)).run Try.prog w = .ok (.slice (some ⟨w.heap.size, 0, none⟩) n n) (w.alloc (.cells (madeCells #[.string ⟨#[]⟩] n) 9)) := by
  obtain ⟨i, e1, e2, e3, e4⟩ := Try.info9
  have h := run_make (P := Try.prog) w 22 9 i (.string ⟨#[]⟩) Try.underlying22 e1 e2 .i64 .i64 (n : Int) (n : Int) (by omega) (by omega) (by rw [e4]; omega) (by omega)
  rw [e3] at h
  simpa [Value.cells] using h

theorem below_setCells {B g : Nat} {a : World} (hg : B ≤ g) : ∀ (vs : List Value) (o : Nat) (w : World), Below B a w → Below B a (w.setCells g o vs)
  | [], _, _, h => h
  | v :: vs, o, w, h => by
    rw [World.setCells]
    exact below_setCells hg vs (o + 1) _ (h.setCell (p := ⟨g, o, none⟩) hg v)

/-- the copy of a list of strings -/
theorem copy_strs (a : Option Addr) (n c : Nat) (ss : List ByteArray) (w : World) (hS : SS w a n ss) (_hm : n ≤ 4096) :
    ∃ W2, (∀ ty, (Builtin.copy_ #[22, 22] ty #[.slice (some ⟨w.heap.size, 0, none⟩) n n, .slice a n c]).run Try.prog (w.alloc (.cells (madeCells #[.string ⟨#[]⟩] n) 9)) = .ok (goInt n) W2) ∧ SS W2 (some ⟨w.heap.size, 0, none⟩) n ss ∧ Below w.heap.size w W2 := by
  have hb1 : Below w.heap.size w (w.alloc (.cells (madeCells #[.string ⟨#[]⟩] n) 9)) := (Below.refl _ _).alloc (Nat.le_refl _) _
  by_cases h0 : n = 0
  · subst h0
    refine ⟨_, fun ty => run_copy_none (P := Try.prog) _ 22 22 ty 9 _ _ 0 0 0 c Try.underlying22 Try.size9 (by simp), ⟨hS.1, hS.2.1, fun i s hs => ?_⟩, hb1⟩
    rw [List.getElem?_eq_none (by have := hS.1; omega)] at hs
    cases hs
  · obtain ⟨_, b, off, _, _, ea, _⟩ := ss_at hS 0 (by omega)
    subst ea
    have hl : (ss.map Value.string).length = n := by simp [hS.1]
    have hthere : ∀ j, j < (ss.map Value.string).length → ((w.alloc (.cells (madeCells #[.string ⟨#[]⟩] n) 9)).cell? ⟨w.heap.size, 0 + j, none⟩).isSome = true := by
      intro j hj
      have := size_madeCells #[Value.string ⟨#[]⟩] n
      simp [this]
      omega
    refine ⟨(w.alloc (.cells (madeCells #[.string ⟨#[]⟩] n) 9)).setCells w.heap.size 0 (ss.map Value.string), fun ty => ?_, ⟨hS.1, hS.2.1, fun i s hs => ⟨(hS.2.2 i s hs).1, w.heap.size, 0, rfl, ?_, ?_⟩⟩, below_setCells (Nat.le_refl _) _ _ _ hb1⟩
    · have hr := run_copy_cells (P := Try.prog) (w.alloc (.cells (madeCells #[.string ⟨#[]⟩] n) 9)) 22 22 ty 9 w.heap.size 0 n n ⟨b, off, none⟩ n c (ss.map Value.string) Try.underlying22 Try.size9 (by rw [hl]; simp) ?_ hthere ?_ ?_
      · rw [hr, hl]
      · intro j v hv
        obtain ⟨s, hs, rfl⟩ := by simpa using hv
        obtain ⟨_, b', off', e, hbz, hc⟩ := hS.2.2 j s hs
        cases e
        have e : (⟨b, off, none⟩ : Addr).add j = ⟨b, off + j, none⟩ := by unfold Addr.add; split <;> simp_all
        rw [e]
        exact (hb1.cell (p := ⟨b, off + j, none⟩) hbz).trans hc
      · intro j _
        simp
      · intro v hv
        obtain ⟨s, _, rfl⟩ := List.mem_map.1 hv
        rfl
    · have h1 := (below_setCells (a := w) (Nat.le_refl _) (ss.map Value.string) 0 _ (hb1.mono (Nat.le_refl _))).size
      have : (w.alloc (.cells (madeCells #[.string ⟨#[]⟩] n) 9)).heap.size ≤ ((w.alloc (.cells (madeCells #[.string ⟨#[]⟩] n) 9)).setCells w.heap.size 0 (ss.map Value.string)).heap.size := (below_setCells (B := 0) (a := w.alloc (.cells (madeCells #[.string ⟨#[]⟩] n) 9)) (Nat.zero_le _) (ss.map Value.string) 0 _ (Below.refl _ _)).size
      simp at this
      omega
    · have hil : i < (ss.map Value.string).length := by
        rcases Nat.lt_or_ge i ss.length with h | h
        · simpa using h
        · rw [List.getElem?_eq_none h] at hs; cases hs
      have := World.cell?_setCells_in w.heap.size (ss.map Value.string) 0 (w.alloc (.cells (madeCells #[.string ⟨#[]⟩] n) 9)) hthere i hil
      rw [this]
      have hsv : (ss.map Value.string)[i]? = some (.string s) := by simp [hs]
      rw [List.getElem?_eq_getElem hil] at hsv
      exact hsv
end Go.Proofs.Qxb6616724a
