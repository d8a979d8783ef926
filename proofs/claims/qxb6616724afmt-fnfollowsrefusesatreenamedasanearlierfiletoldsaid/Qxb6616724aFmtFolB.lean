import Derived.Test.Qxb6616724aFmtFol
namespace Go.Proofs.Qxb6616724aFmt
open Go.RowKit Go.Extern.Stop Go.Stop Go.Extern

theorem Drew.cell {w w' : World} (h : Drew w w') (p : Addr) : w'.cell? p = w.cell? p := by obtain ⟨q, rfl⟩ := h; rfl
theorem Drew.froz {w w' : World} (h : Drew w w') (p : Addr) : w'.frozen? p = w.frozen? p := by obtain ⟨q, rfl⟩ := h; rfl
theorem Drew.heap {w w' : World} (h : Drew w w') : w'.heap = w.heap := by obtain ⟨q, rfl⟩ := h; rfl
theorem Drew.tape {w w' : World} (h : Drew w w') : w'.tape = w.tape := by obtain ⟨q, rfl⟩ := h; rfl
theorem Drew.trans {w w' w'' : World} (h : Drew w w') (k : Drew w' w'') : Drew w w'' := by obtain ⟨q, rfl⟩ := k; exact h.more q

/-- what 'follows' gives -/
def FolPost (w0 : World) (T : Nat) (ln : Value) (lm m : Int) (xs : List Int) (fs : List NV) (e : Ending) (w' : World) : Prop :=
  Below w0.heap.size w0 w' ∧ ((Pl.pop xs (m == 16384) (fs.map NV.xs)).1 = true → IsErr e) ∧
  ((Pl.pop xs (m == 16384) (fs.map NV.xs)).1 = false → e = .returned .nilIface ∧ ∃ fv' fu' fs', TreeBox w' T ln lm fv' fu' ∧ FilesAt w0 w' fv' fs' ∧ fs'.map NV.xs = Pl.next xs (m == 16384) (fs.map NV.xs))

theorem Pl.lex_self : ∀ a : List Int, Pl.lex a a = 0
  | [] => rfl
  | x :: a => by simpa [Pl.lex] using Pl.lex_self a
/-- names that part before either ends: neither is under the other -/
theorem Pl.not_under (xs ys : List Int) (q : Nat) (hq : q = min ys.length xs.length) (h : Pl.lex (ys.take q) (xs.take q) < 0) : Pl.under xs ys = false := by
  cases hu : Pl.under xs ys with
  | false => rfl
  | true =>
    simp only [Pl.under, Bool.and_eq_true, decide_eq_true_eq, beq_iff_eq] at hu
    obtain ⟨⟨h1, h2⟩, _⟩ := hu
    have : q = ys.length := by omega
    subst this
    rw [List.take_length, ← h2, Pl.lex_self] at h
    omega
theorem Pl.pop_apart (xs ys : List Int) (q : Nat) (hq : q = min ys.length xs.length) (h : Pl.lex (ys.take q) (xs.take q) < 0) : Pl.pop xs false [ys] = (false, []) := by
  simp [Pl.pop, Pl.not_under xs ys q hq h]

theorem FilesAt.of_heap {w0 w w' : World} {fv : Value} {fs : List NV} (h : FilesAt w0 w fv fs) (hg : ∀ g, fv.ownBlock = some g → w'.heap[g]? = w.heap[g]?) : FilesAt w0 w' fv fs := by
  refine ⟨⟨h.1.1, ?_⟩, h.2⟩
  rcases h.1.2 with h0 | ⟨g, cap, cur, h1, h2, h3, h4⟩
  · exact .inl h0
  · refine .inr ⟨g, cap, cur, h1, h2, ?_, h4⟩
    rw [hg g (by rw [h1]; rfl)]
    exact h3
theorem FilesAt.ne {w0 w : World} {fv fv2 : Value} {fs : List NV} {T : Nat} {ln : Value} {lm fu : Int} (h : FilesAt w0 w fv fs) (hT : TreeBox w T ln lm fv2 fu) (g : Nat) (hg : fv.ownBlock = some g) : g ≠ T := by
  rintro rfl
  rcases h.1.2 with ⟨h0, _⟩ | ⟨g', cap, cur, h1, h2, h3, h4⟩
  · rw [h0] at hg
    simp [Value.ownBlock] at hg
  · rw [h1] at hg
    simp [Value.ownBlock] at hg
    subst hg
    unfold TreeBox at hT
    rw [hT] at h3
    simp at h3
theorem FilesAt.base {w0 w : World} {fv : Value} {fs : List NV} (h : FilesAt w0 w fv fs) (g : Nat) (hg : fv.ownBlock = some g) : w0.heap.size ≤ g ∧ g < w.heap.size := by
  rcases h.1.2 with ⟨h0, _⟩ | ⟨g', cap, cur, h1, h2, h3, h4⟩
  · rw [h0] at hg
    simp [Value.ownBlock] at hg
  · rw [h1] at hg
    simp [Value.ownBlock] at hg
    subst hg
    exact ⟨h2, (Array.getElem?_eq_some_iff.1 h3).1⟩

theorem FolPost.drew {w0 : World} {T : Nat} {ln : Value} {lm m : Int} {xs : List Int} {fs : List NV} {e : Ending} {w' : World} (h : FolPost w0 T ln lm m xs fs e w') : FolPost w0 T ln lm m xs fs e w'.drew := by
  refine ⟨h.1.drew, h.2.1, fun hp => ?_⟩
  obtain ⟨h1, fv, fu, fs', h2, h3, h4⟩ := h.2.2 hp
  exact ⟨h1, fv, fu, fs', h2.of_block rfl, h3.of_heap (fun _ _ => rfl), h4⟩

/-- the quick way's end: the file takes the last one's place -/
theorem fast_end (w0 W : World) (T g cap q : Nat) (ln : Value) (lm fu m v : Int) (xs ys : List Int) (e f : NV) (he : NameIn w0 e) (hex : e.xs = xs) (hf : f.xs = ys) (hm : (m == 16384) = false)
    (hB : Below w0.heap.size w0 W) (hT0 : w0.heap.size ≤ T) (hT : TreeBox W T ln lm (.slice (some ⟨g, 0, none⟩) 1 cap) fu) (hF : FilesAt w0 W (.slice (some ⟨g, 0, none⟩) 1 cap) [f])
    (hq : q = min ys.length xs.length) (h : Pl.lex (ys.take q) (xs.take q) < 0) :
    FolPost w0 T ln lm m xs [f] (.returned .nilIface) ((W.setCell ⟨g, 0, none⟩ e.val).setCell ⟨T, 11, none⟩ (.int .i64 v)) := by
  have hp : Pl.pop xs (m == 16384) ([f].map NV.xs) = (false, []) := by
    rw [hm, List.map_cons, List.map_nil, hf]
    exact Pl.pop_apart xs ys q hq h
  have hne : g ≠ T := hF.ne hT g rfl
  have hb := hF.base g rfl
  refine ⟨(hB.setCell (p := ⟨g, 0, none⟩) hb.1 _).setCell (p := ⟨T, 11, none⟩) hT0 _, ?_, fun _ => ⟨rfl, .slice (some ⟨g, 0, none⟩) 1 cap, v, [e], ?_, ?_, ?_⟩⟩
  · rw [hp]; intro h; cases h
  · refine TreeBox.setShared (fu := fu) (hT.of_block ?_) v
    exact Below.heap_setCell _ _ _ _ (Ne.symm hne)
  · refine ⟨⟨rfl, ?_⟩, ?_⟩
    · rcases hF.1.2 with ⟨h0, _⟩ | ⟨g', cap', cur, h1, h2, h3, h4, h5, h6, h7⟩
      · cases h0
      · cases h1
        refine .inr ⟨g, cap, cur.setIfInBounds 0 e.val, rfl, h2, ?_, h4, h5, by rw [Array.size_setIfInBounds]; exact h6, ?_⟩
        · rw [Below.heap_setCell _ _ _ _ (by exact hne)]
          simp [World.setCell, Array.getElem?_modify, h3]
        · simp at h7 ⊢
          cases hc : cur.toList with
          | nil => rw [hc] at h7; simp at h7
          | cons x t => simp
    · intro k hk
      simp at hk
      subst hk
      exact he
  · rw [Pl.next, hp, hm]
    simp [hex]
end Go.Proofs.Qxb6616724aFmt
