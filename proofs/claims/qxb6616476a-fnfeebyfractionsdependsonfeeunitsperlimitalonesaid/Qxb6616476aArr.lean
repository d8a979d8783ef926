import Derived.Test.Qxb6616476aRows
import Derived.ProofKit
import Derived.OpenShut
namespace Go.Proofs.Qxb6616476a
open Go.ChangeShapes Go.WideShapes Go.ChangeAt Go.RowKit

theorem ints_of_cells {k : IntKind} : ∀ (l : List Value), (∀ i, i < l.length → ∃ x, l[i]? = some (.int k x) ∧ (Lit.int k x).wf = true) →
    ∃ xs : List Int, l = xs.map (Value.int k) ∧ ∀ x ∈ xs, (Lit.int k x).wf = true
  | [], _ => ⟨[], rfl, by simp⟩
  | v :: l, h => by
    obtain ⟨x, hx, wx⟩ := h 0 (by simp)
    simp at hx
    obtain ⟨xs, rfl, hw⟩ := ints_of_cells l (fun i hi => by simpa using h (i + 1) (by simpa using hi))
    refine ⟨x :: xs, by simp [hx], ?_⟩
    intro y hy
    rcases List.mem_cons.1 hy with rfl | hy
    · exact wx
    · exact hw y hy

section
variable {H : Type} {enc : TypeId × Value → H} {P : Program} {w : World} {base : Nat} {spare : Nat → Bool} {held : Bool}

theorem trod_ints {fuel n : Nat} {t e : TypeId} {k : IntKind} {cs : List Value} {x : DataW H × List MemPlace} (ht : P.underlying t = some (.array n e)) (he : P.underlying e = some (.int k)) (hce : P.cellsOf e = 1)
    (h : DataW.trod enc P w base spare held fuel t cs = some x) : ∀ i, i < n → ∃ y, cs[i]? = some (.int k y) ∧ (Lit.int k y).wf = true := by
  obtain ⟨xs, m, _, _, hlen, hl, hel⟩ := DataW.trod_array ht h
  intro i hi
  have hi' := hel i hi
  rw [hce, Nat.mul_one] at hi'
  rw [List.getElem?_eq_getElem (by omega)] at hi'
  obtain ⟨y, hy, _, wy⟩ := DataW.trod_int he hi'
  refine ⟨y, ?_, wy⟩
  have := congrArg (fun l => l[0]?) hy
  simpa [List.getElem?_take, List.getElem?_drop] using this

/-- an array of integers by value: the value written out -/
theorem open_arr {r : Reach} {b0 n : Nat} {t e : TypeId} {k : IntKind} {v : Value} {d : DataW H} {p : List MemPlace} (ht : P.underlying t = some (.array n e)) (he : P.underlying e = some (.int k)) (hce : P.cellsOf e = 1) (hct : P.cellsOf t = n)
    (hv : Value.okWide P w r b0 t v) (h : DataW.Trod enc P w base spare held t v d p) :
    ∃ xs : List Int, xs.length = n ∧ v = .agg (xs.map (Value.int k)).toArray ∧ ∀ x ∈ xs, (Lit.int k x).wf = true := by
  obtain ⟨cs, rfl, hsz, _⟩ : ∃ cs, v = .agg cs ∧ cs.size = P.cellsOf t ∧ Row.okWide P w r b0 t cs := by
    simpa [Value.okWide, ht] using hv
  rw [hct] at hsz
  obtain ⟨l⟩ := cs
  simp at hsz
  obtain ⟨fuel, hf⟩ := h
  have := trod_ints (n := n) ht he hce (by simpa [Value.cells] using hf)
  obtain ⟨xs, rfl, hw⟩ := ints_of_cells l (by rw [hsz]; exact this)
  exact ⟨xs, by simpa using hsz, rfl, hw⟩

/-- an array of arrays of integers by value -/
theorem open_arr2 {r : Reach} {b0 n m : Nat} {t e1 e : TypeId} {k : IntKind} {v : Value} {d : DataW H} {p : List MemPlace} (ht : P.underlying t = some (.array n e1)) (h1 : P.underlying e1 = some (.array m e)) (he : P.underlying e = some (.int k)) (hce : P.cellsOf e = 1) (hc1 : P.cellsOf e1 = m) (hct : P.cellsOf t = n * m)
    (hv : Value.okWide P w r b0 t v) (h : DataW.Trod enc P w base spare held t v d p) :
    ∃ xs : List Int, xs.length = n * m ∧ v = .agg (xs.map (Value.int k)).toArray ∧ ∀ x ∈ xs, (Lit.int k x).wf = true := by
  obtain ⟨cs, rfl, hsz, _⟩ : ∃ cs, v = .agg cs ∧ cs.size = P.cellsOf t ∧ Row.okWide P w r b0 t cs := by
    simpa [Value.okWide, ht] using hv
  rw [hct] at hsz
  obtain ⟨l⟩ := cs
  simp at hsz
  obtain ⟨fuel, hf⟩ := h
  obtain ⟨ys, m', _, _, _, hl, hel⟩ := DataW.trod_array ht hf
  obtain ⟨xs, rfl, hw⟩ := ints_of_cells (k := k) l (by
    intro i hi
    have hm : 0 < m := by
      rcases Nat.eq_zero_or_pos m with h | h
      · subst h; rw [hsz] at hi; simp at hi
      · exact h
    have hin : i / m < n := by rw [Nat.div_lt_iff_lt_mul hm]; omega
    have hi' := hel (i / m) hin
    rw [List.getElem?_eq_getElem (by omega)] at hi'
    obtain ⟨y, hy, wy⟩ := trod_ints h1 he hce hi' (i % m) (Nat.mod_lt _ hm)
    refine ⟨y, ?_, wy⟩
    rw [hc1] at hy
    rw [List.getElem?_take_of_lt (Nat.mod_lt _ hm), List.getElem?_drop] at hy
    have : i / m * m + i % m = i := by rw [Nat.mul_comm]; exact Nat.div_add_mod i m
    rw [this] at hy
    simpa [Value.cells] using hy)
  exact ⟨xs, by simpa using hsz, rfl, hw⟩
end

theorem len2 {α : Type} {l : List α} (h : l.length = 2) : ∃ a b, l = [a, b] := by
  match l, h with
  | [a, b], _ => exact ⟨a, b, rfl⟩
theorem len3 {α : Type} {l : List α} (h : l.length = 3) : ∃ a b c, l = [a, b, c] := by
  match l, h with
  | [a, b, c], _ => exact ⟨a, b, c, rfl⟩
theorem len4 {α : Type} {l : List α} (h : l.length = 4) : ∃ a b c d, l = [a, b, c, d] := by
  match l, h with
  | [a, b, c, d], _ => exact ⟨a, b, c, d, rfl⟩
theorem len5 {α : Type} {l : List α} (h : l.length = 5) : ∃ a b c d e, l = [a, b, c, d, e] := by
  match l, h with
  | [a, b, c, d, e], _ => exact ⟨a, b, c, d, e, rfl⟩
theorem len6 {α : Type} {l : List α} (h : l.length = 6) : ∃ a b c d e f, l = [a, b, c, d, e, f] := by
  match l, h with
  | [a, b, c, d, e, f], _ => exact ⟨a, b, c, d, e, f, rfl⟩
theorem len8 {α : Type} {l : List α} (h : l.length = 8) : ∃ a b c d e f g i, l = [a, b, c, d, e, f, g, i] := by
  match l, h with
  | [a, b, c, d, e, f, g, i], _ => exact ⟨a, b, c, d, e, f, g, i, rfl⟩

theorem Try.own : ownKnob Try.prog.godebug = none := by kernel_rfl
theorem Try.laidOut : laidOutB Try.prog = true := by kernel_rfl
theorem Try.cells33 : Try.prog.cellsOf 33 = 4 := by kernel_rfl
theorem Try.cells22 : Try.prog.cellsOf 22 = 1 := by kernel_rfl
theorem Try.cells34 : Try.prog.cellsOf 34 = 3 := by kernel_rfl
theorem Try.cells35 : Try.prog.cellsOf 35 = 6 := by kernel_rfl
theorem Try.cells4 : Try.prog.cellsOf 4 = 1 := by kernel_rfl
theorem Try.cells24 : Try.prog.cellsOf 24 = 8 := by kernel_rfl
theorem Try.cells23 : Try.prog.cellsOf 23 = 2 := by kernel_rfl
theorem Try.cells25 : Try.prog.cellsOf 25 = 5 := by kernel_rfl
end Go.Proofs.Qxb6616476a
