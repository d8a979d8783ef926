import Derived.Test.Qxb6616724aFmtTree
import Derived.Test.Qxb6616724aFmtCopy
namespace Go.Proofs.Qxb6616724aFmt
open Go.RowKit Go.Extern.Stop Go.Stop Go.Extern

/-- a name that lies in the old memory -/
def NameIn (w0 : World) (v : NV) : Prop := BS w0 v.a v.n v.c v.xs ∧ v.xs ≠ []
/-- the stack of files, its top first -/
def FilesAt (w0 w : World) (fv : Value) (fs : List NV) : Prop := w.ownsRow w0.heap.size 30 1 fv fs.length (fs.reverse.map NV.val) ∧ ∀ f ∈ fs, NameIn w0 f
/-- the entry's box -/
def EBox (w : World) (E : Nat) (e : NV) (m : Int) : Prop := w.heap[E]? = some (.cells #[e.val, .int .u32 m, .slice none 0 0] 42 (0, 0))
/-- what is known of the entry given last -/
def LastOk (w0 : World) (ln : Value) (lm : Int) (e : NV) (m : Int) (fs : List NV) : Prop :=
  lm = 0 ∨ ∃ l : NV, ln = l.val ∧ NameIn w0 l ∧ Pl.cmpE l.xs (lm == 16384) e.xs (m == 16384) < 0 ∧ (lm ≠ 16384 → ∃ r, fs.map NV.xs = l.xs :: r)
theorem EBox.cell {w : World} {E : Nat} {e : NV} {m : Int} (h : EBox w E e m) : w.cell? ⟨E, 0, none⟩ = some e.val ∧ w.cell? ⟨E, 1, none⟩ = some (.int .u32 m) := by
  unfold EBox at h
  constructor <;> simp [World.cell?, h]
theorem EBox.lt {w : World} {E : Nat} {e : NV} {m : Int} (h : EBox w E e m) : E < w.heap.size := (Array.getElem?_eq_some_iff.1 h).1
theorem EBox.ne {w : World} {E T : Nat} {e : NV} {m : Int} {ln fv : Value} {lm fu : Int} (h : EBox w E e m) (h2 : TreeBox w T ln lm fv fu) : E ≠ T := by
  rintro rfl
  unfold EBox at h
  unfold TreeBox at h2
  rw [h] at h2
  simp at h2
theorem nameIn_some {w0 : World} {v : NV} (h : NameIn w0 v) : ∃ b off n c xs, v = (some ⟨b, off, none⟩, n, c, xs) ∧ 0 < n ∧ BS w0 (some ⟨b, off, none⟩) n c xs ∧ xs ≠ [] := by
  obtain ⟨a, n, c, xs⟩ := v
  obtain ⟨h1, h2⟩ := h
  replace h1 : BS w0 a n c xs := h1
  replace h2 : xs ≠ [] := h2
  have hn : 0 < n := by
    have := h1.1
    rcases Nat.eq_zero_or_pos n with h | h
    · exfalso
      apply h2
      apply List.length_eq_zero_iff.1
      omega
    · exact h
  obtain ⟨_, b, off, _, _, e, _⟩ := bs_at h1 0 hn
  subst e
  exact ⟨b, off, n, c, xs, rfl, hn, h1, h2⟩
end Go.Proofs.Qxb6616724aFmt
