import GoSem.Op.String
namespace Go.Proofs.Qxb6616724a
open Go

theorem less_irrefl : ∀ x : List UInt8, Op.bytesLess x x = false
  | [] => rfl
  | a :: x => by simp [Op.bytesLess, less_irrefl x]
theorem less_cons (a b : UInt8) (x y : List UInt8) : Op.bytesLess (a :: x) (b :: y) = (decide (a < b) || (decide (a = b) && Op.bytesLess x y)) := by
  rw [Op.bytesLess]
  by_cases h : a = b <;> simp [h]
theorem le_lt_trans : ∀ t u x : List UInt8, Op.bytesLess u t = false → Op.bytesLess u x = true → Op.bytesLess t x = true
  | _, [], [], _, h2 => by simp [Op.bytesLess] at h2
  | [], [], _ :: _, _, _ => rfl
  | _ :: _, [], _ :: _, h1, _ => by simp [Op.bytesLess] at h1
  | _, _ :: _, [], _, h2 => by simp [Op.bytesLess] at h2
  | [], _ :: _, _ :: _, _, _ => rfl
  | a :: t, b :: u, c :: x, h1, h2 => by
    rw [less_cons] at h1 h2 ⊢
    simp only [Bool.or_eq_false_iff, Bool.and_eq_false_iff, decide_eq_false_iff_not, Bool.or_eq_true, Bool.and_eq_true, decide_eq_true_eq, UInt8.lt_iff_toNat_lt, ← UInt8.toNat_inj] at h1 h2 ⊢
    obtain ⟨h1, h1'⟩ := h1
    rcases h2 with h2 | ⟨h2, h3⟩
    · left; omega
    · rcases h1' with h1' | h1'
      · left; omega
      · by_cases e : a.toNat = c.toNat
        · exact .inr ⟨e, le_lt_trans t u x h1' h3⟩
        · left; omega
theorem le_antisymm : ∀ x y : List UInt8, Op.bytesLess x y = false → Op.bytesLess y x = false → x = y
  | [], [], _, _ => rfl
  | [], _ :: _, h, _ => by simp [Op.bytesLess] at h
  | _ :: _, [], _, h => by simp [Op.bytesLess] at h
  | a :: x, b :: y, h1, h2 => by
    rw [less_cons] at h1 h2
    simp only [Bool.or_eq_false_iff, Bool.and_eq_false_iff, decide_eq_false_iff_not, UInt8.lt_iff_toNat_lt] at h1 h2
    obtain ⟨h1, h1'⟩ := h1
    obtain ⟨h2, h2'⟩ := h2
    have e : a = b := by rw [← UInt8.toNat_inj]; omega
    subst e
    simp at h1' h2'
    rw [le_antisymm x y h1' h2']
theorem le_trans (t u x : List UInt8) (h1 : Op.bytesLess u t = false) (h2 : Op.bytesLess x u = false) : Op.bytesLess x t = false := by
  cases h : Op.bytesLess x t with
  | false => rfl
  | true =>
    have := le_lt_trans u x t h2 h
    rw [h1] at this
    exact this.symm

/-- the list ascends -/
def Asc (ss : List ByteArray) : Prop := ∀ (t u : Nat) (s s' : ByteArray), t ≤ u → ss[t]? = some s → ss[u]? = some s' → Op.bytesLess s'.toList s.toList = false
theorem asc_of (ss : List ByteArray) (h : ∀ (t : Nat) (s s' : ByteArray), ss[t]? = some s → ss[t + 1]? = some s' → Op.bytesLess s'.toList s.toList = false) : Asc ss := by
  intro t u s s' htu hs hs'
  obtain ⟨d, rfl⟩ : ∃ d, u = t + d := ⟨u - t, by omega⟩
  clear htu
  induction d generalizing s' with
  | zero =>
    rw [Nat.add_zero, hs] at hs'
    cases hs'
    exact less_irrefl _
  | succ d ih =>
    have hl : t + d < ss.length := by
      rcases Nat.lt_or_ge (t + d) ss.length with h | h
      · exact h
      · rw [List.getElem?_eq_none (by omega)] at hs'; cases hs'
    have h1 := ih ss[t + d] (by simp)
    have h2 := h (t + d) ss[t + d] s' (by simp) hs'
    exact le_trans _ _ _ h1 h2

/-- is the string in the list? -/
def mem (x : ByteArray) (ss : List ByteArray) : Bool := ss.any fun s => s.toList == x.toList
/-- what the lower bound tells of membership -/
theorem mem_of_bound (ss : List ByteArray) (x : ByteArray) (i : Nat) (h1 : ∀ (t : Nat) (s : ByteArray), t < i → ss[t]? = some s → Op.bytesLess s.toList x.toList = true) (h2 : ∀ (t : Nat) (s : ByteArray), i ≤ t → ss[t]? = some s → Op.bytesLess s.toList x.toList = false) (ha : Asc ss) :
    (∀ (s : ByteArray), ss[i]? = some s → (s.toList == x.toList) = mem x ss) ∧ (ss[i]? = none → mem x ss = false) := by
  have key : mem x ss = true → ∃ s, ss[i]? = some s ∧ s.toList = x.toList := by
    intro hm
    simp only [mem, List.any_eq_true, beq_iff_eq] at hm
    obtain ⟨s, hs, he⟩ := hm
    obtain ⟨t, ht⟩ := List.getElem?_of_mem hs
    have hti : i ≤ t := by
      rcases Nat.lt_or_ge t i with h | h
      · have := h1 t s h ht; rw [he, less_irrefl] at this; cases this
      · exact h
    have hl : i < ss.length := by
      rcases Nat.lt_or_ge i ss.length with h | h
      · exact h
      · rw [List.getElem?_eq_none (by omega)] at ht; cases ht
    refine ⟨ss[i], by simp, ?_⟩
    have e1 := h2 i ss[i] (Nat.le_refl _) (by simp)
    have e2 := ha i t ss[i] s hti (by simp) ht
    rw [he] at e2
    exact le_antisymm _ _ e1 e2
  refine ⟨fun s hs => ?_, fun hn => ?_⟩
  · cases hm : mem x ss with
    | true =>
      obtain ⟨s', h1', h2'⟩ := key hm
      rw [hs] at h1'
      cases h1'
      simp [h2']
    | false =>
      cases he : s.toList == x.toList with
      | false => rfl
      | true =>
        have : mem x ss = true := by
          simp only [mem, List.any_eq_true]
          exact ⟨s, List.mem_of_getElem? hs, he⟩
        rw [hm] at this
        exact this.symm
  · cases hm : mem x ss with
    | false => rfl
    | true =>
      obtain ⟨s', h1', _⟩ := key hm
      rw [hn] at h1'
      cases h1'
end Go.Proofs.Qxb6616724a
