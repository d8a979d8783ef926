import Derived.Test.Qxb6616476aNat
namespace Go.Proofs.Qxb6616476a
open Go.RowKit Go.Lib

theorem cell_set_same {w : World} {b o : Nat} {v : Value} (h : (w.cell? ⟨b, o, none⟩).isSome = true) : (w.setCell ⟨b, o, none⟩ v).cell? ⟨b, o, none⟩ = some v := by
  unfold World.cell? at h ⊢
  simp only [World.setCell, Array.getElem?_modify] at h ⊢
  cases hw : w.heap[b]? with
  | none => simp [hw] at h
  | some ob =>
    cases ob <;> simp [hw] at h ⊢
    rw [Array.getElem?_setIfInBounds]
    simp [h]
theorem cell_set_ne {w : World} {b o o' : Nat} {v : Value} (h : o' ≠ o) : (w.setCell ⟨b, o, none⟩ v).cell? ⟨b, o', none⟩ = w.cell? ⟨b, o', none⟩ := by
  unfold World.cell?
  simp only [World.setCell, Array.getElem?_modify]
  cases hw : w.heap[b]? with
  | none => simp
  | some ob =>
    cases ob <;> simp
    rw [Array.getElem?_setIfInBounds]
    simp [Ne.symm h]
/-- one digit of the row is written -/
theorem range_set {w : World} {b i : Nat} {cs : List Value} {v : Value} (h : w.rangeAt b 0 cs) (hi : i < cs.length) : (w.setCell ⟨b, i, none⟩ v).rangeAt b 0 (cs.set i v) := by
  intro j u hu
  rw [Nat.zero_add]
  by_cases hj : j = i
  · subst hj
    rw [List.getElem?_set_self hi] at hu
    cases hu
    apply cell_set_same
    have := h j cs[j] (by simp)
    rw [Nat.zero_add] at this
    rw [this]
    rfl
  · rw [List.getElem?_set_ne (Ne.symm hj)] at hu
    rw [cell_set_ne hj]
    have := h j u hu
    rwa [Nat.zero_add] at this
end Go.Proofs.Qxb6616476a
