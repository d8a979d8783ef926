import Derived.Test.Qxb6616724aFmtRows
namespace Go.Proofs.Qxb6616724aFmt
namespace Pl

/-- two keys, byte by byte -/
def lex : List Int → List Int → Int
  | [], [] => 0
  | [], _ :: _ => -1
  | _ :: _, [] => 1
  | x :: a, y :: b => if x = y then lex a b else if x < y then -1 else 1
/-- a subtree's key ends in a slash -/
def key (a : List Int) (t : Bool) : List Int := if t then a ++ [47] else a
def cmp2 (x y : Int) : Int := if x < y then -1 else if y < x then 1 else 0
def nb (a : List Int) (t : Bool) (i : Nat) : Int := if i < a.length then a.getD i 0 else if t then 47 else 0
/-- compareEntries -/
def cmpE (a : List Int) (ta : Bool) (b : List Int) (tb : Bool) : Int :=
  if lex (a.take (min a.length b.length)) (b.take (min a.length b.length)) = 0 then cmp2 (nb a ta (min a.length b.length)) (nb b tb (min a.length b.length)) else lex (a.take (min a.length b.length)) (b.take (min a.length b.length))
/-- is e under f: f a proper prefix, the next byte below the slash -/
def under (e f : List Int) : Bool := decide (f.length < e.length) && (f == e.take f.length) && decide (e.getD f.length 0 < 47)
/-- the loop of 'follows', the stack's top first -/
def pop (e : List Int) (t : Bool) : List (List Int) → Bool × List (List Int)
  | [] => (false, [])
  | f :: r => if t && e == f then (true, f :: r) else if under e f then (false, f :: r) else pop e t r
def next (e : List Int) (t : Bool) (fs : List (List Int)) : List (List Int) := if t then (pop e t fs).2 else e :: (pop e t fs).2
def filesAt (es : List (List Int × Bool)) : Nat → List (List Int)
  | 0 => []
  | i + 1 => next ((es.getD i ([], false)).1) ((es.getD i ([], false)).2) (filesAt es i)

/-- a name: neither empty nor holding a zero or a slash -/
def okName (a : List Int) : Prop := a ≠ [] ∧ ∀ x ∈ a, 0 < x ∧ x ≠ 47

theorem cmpE_cons (x y : Int) (a b : List Int) (ta tb : Bool) : cmpE (x :: a) ta (y :: b) tb = if x = y then cmpE a ta b tb else if x < y then -1 else 1 := by
  have e : min (x :: a).length (y :: b).length = min a.length b.length + 1 := by simp
  have n1 : nb (x :: a) ta (min a.length b.length + 1) = nb a ta (min a.length b.length) := by simp [nb]
  have n2 : nb (y :: b) tb (min a.length b.length + 1) = nb b tb (min a.length b.length) := by simp [nb]
  simp only [cmpE, e, List.take_succ_cons, n1, n2, lex]
  by_cases h : x = y
  · simp [h]
  · simp only [h, if_false]
    by_cases h2 : x < y <;> simp [h2]

theorem cmpE_of_lex : ∀ (a b : List Int) (ta tb : Bool), (∀ x ∈ a, 0 < x ∧ x ≠ 47) → (∀ x ∈ b, 0 < x ∧ x ≠ 47) → lex (key a ta) (key b tb) < 0 → cmpE a ta b tb < 0
  | [], [], ta, tb, _, _, h => by
    cases ta <;> cases tb <;> revert h <;> simp [key, lex, cmpE, cmp2, nb]
  | [], y :: b, ta, tb, _, hb, h => by
    have hy := hb y (by simp)
    have hk : key (y :: b) tb = y :: key b tb := by cases tb <;> simp [key]
    rw [hk] at h
    cases ta
    · simp [cmpE, lex, cmp2, nb, hy.1]
    · simp only [key, if_true, List.nil_append, lex] at h
      simp only [cmpE, List.length_nil, Nat.zero_min, List.take_zero, lex, nb, cmp2]
      rcases Int.lt_trichotomy 47 y with h1 | h1 | h1
      · simp [h1]
      · exact absurd h1.symm hy.2
      · have h2 : ¬ (47 : Int) = y := by omega
        have h3 : ¬ (47 : Int) < y := by omega
        simp [h2, h3] at h
  | x :: a, [], ta, tb, ha, _, h => by
    have hx := ha x (by simp)
    have hk : key (x :: a) ta = x :: key a ta := by cases ta <;> simp [key]
    rw [hk] at h
    cases tb
    · simp [key, lex] at h
    · simp only [key, if_true, List.nil_append, lex] at h
      simp only [cmpE, List.length_nil, Nat.min_zero, List.take_zero, lex, nb, cmp2]
      rcases Int.lt_trichotomy x 47 with h1 | h1 | h1
      · simp [h1]
      · exact absurd h1 hx.2
      · have h2 : ¬ x = (47 : Int) := by omega
        have h3 : ¬ x < (47 : Int) := by omega
        simp [h2, h3] at h
  | x :: a, y :: b, ta, tb, ha, hb, h => by
    have hk : key (x :: a) ta = x :: key a ta := by cases ta <;> simp [key]
    have hk' : key (y :: b) tb = y :: key b tb := by cases tb <;> simp [key]
    rw [hk, hk', lex] at h
    rw [cmpE_cons]
    by_cases e : x = y
    · simp only [e, if_true] at h ⊢
      exact cmpE_of_lex a b ta tb (fun z hz => ha z (by simp [hz])) (fun z hz => hb z (by simp [hz])) h
    · simp only [e, if_false] at h ⊢
      exact h

theorem lex_trans : ∀ (a b c : List Int), lex a b < 0 → lex b c < 0 → lex a c < 0
  | [], [], _, h, _ => by simp [lex] at h
  | _, _ :: _, [], _, h => by simp [lex] at h
  | _ :: _, [], _, h, _ => by simp [lex] at h
  | [], _ :: _, _ :: _, _, _ => by simp [lex]
  | x :: a, y :: b, z :: c, h1, h2 => by
    simp only [lex] at *
    by_cases e1 : x = y
    · subst e1
      simp only [if_true] at h1
      by_cases e2 : x = z
      · simp only [e2, if_true] at h2 ⊢
        exact lex_trans a b c h1 h2
      · simp only [e2, if_false] at h2 ⊢
        exact h2
    · simp only [e1, if_false] at h1
      have l1 : x < y := by
        by_cases l : x < y
        · exact l
        · simp [l] at h1
      by_cases e2 : y = z
      · subst e2
        simp [e1, l1]
      · simp only [e2, if_false] at h2
        have l2 : y < z := by
          by_cases l : y < z
          · exact l
          · simp [l] at h2
        have e3 : ¬ x = z := by omega
        have l3 : x < z := by omega
        simp [e3, l3]

/-- between a and a/ lies what is under a -/
theorem lex_between : ∀ (a k : List Int), lex a k < 0 → lex k (a ++ [47]) < 0 → ∃ x t, k = a ++ x :: t ∧ x < 47
  | [], [], h, _ => by simp [lex] at h
  | [], x :: t, _, h => by
    simp only [List.nil_append, lex] at h
    refine ⟨x, t, rfl, ?_⟩
    by_cases e : x = 47
    · subst e
      cases t <;> simp [lex] at h
    · simp only [e, if_false] at h
      by_cases l : x < 47
      · exact l
      · simp [l] at h
  | _ :: _, [], h, _ => by simp [lex] at h
  | y :: a, z :: k, h1, h2 => by
    simp only [List.cons_append, lex] at h1 h2
    by_cases e : y = z
    · subst e
      simp only [if_true] at h1 h2
      obtain ⟨x, t, rfl, hx⟩ := lex_between a k h1 h2
      exact ⟨x, t, rfl, hx⟩
    · have e' : ¬ z = y := fun h => e h.symm
      simp only [e, e', if_false] at h1 h2
      by_cases l : y < z
      · have l' : ¬ z < y := by omega
        simp [l'] at h2
      · simp [l] at h1
theorem lex_self_slash : ∀ a : List Int, lex a (a ++ [47]) < 0
  | [] => by simp [lex]
  | x :: a => by simpa [lex] using lex_self_slash a

theorem under_of (a b : List Int) (t : Bool) (h1 : lex a (key b t) < 0) (h2 : lex (key b t) (a ++ [47]) < 0) : under b a = true := by
  obtain ⟨x, r, e, hx⟩ := lex_between a (key b t) h1 h2
  have : ∃ r', b = a ++ x :: r' := by
    cases t
    · exact ⟨r, by simpa [key] using e⟩
    · simp only [key, if_true] at e
      rcases List.eq_nil_or_concat r with rfl | ⟨r', y, rfl⟩
      · have := List.append_inj' e (by simp)
        simp at this
        omega
      · refine ⟨r', ?_⟩
        have e2 : b ++ [47] = (a ++ x :: r') ++ [y] := by simpa using e
        exact (List.append_inj' e2 rfl).1
  obtain ⟨r', rfl⟩ := this
  simp [under, hx]

/-- what 'pop' leaves is a tail -/
theorem pop_tail (e : List Int) (t : Bool) : ∀ fs, ∃ p, fs = p ++ (pop e t fs).2
  | [] => ⟨[], rfl⟩
  | f :: r => by
    simp only [pop]
    split
    · exact ⟨[], rfl⟩
    · split
      · exact ⟨[], rfl⟩
      · obtain ⟨p, hp⟩ := pop_tail e t r
        exact ⟨f :: p, by rw [List.cons_append, ← hp]⟩
theorem pop_true (e : List Int) (t : Bool) : ∀ fs, (pop e t fs).1 = true → t = true ∧ e ∈ fs
  | [] => by simp [pop]
  | f :: r => by
    simp only [pop]
    split
    · rename_i h
      simp at h
      intro _
      exact ⟨h.1, by simp [h.2]⟩
    · split
      · simp
      · intro h
        obtain ⟨h1, h2⟩ := pop_true e t r h
        exact ⟨h1, by simp [h2]⟩
/-- a file stays while what comes is under it -/
theorem pop_keeps (e : List Int) (t : Bool) (a : List Int) (rest : List (List Int)) (hu : under e a = true) : ∀ pre : List (List Int), (∀ f ∈ pre, a.length < f.length) →
    ∃ pre', (pop e t (pre ++ a :: rest)).2 = pre' ++ a :: rest ∧ ∀ f ∈ pre', a.length < f.length
  | [], _ => by
    have hne : (t && e == a) = false := by
      cases t
      · rfl
      · have : e ≠ a := by
          rintro rfl
          simp [under] at hu
        simpa using this
    exact ⟨[], by simp [pop, hne, hu], by simp⟩
  | f :: pre, hp => by
    simp only [List.cons_append, pop]
    split
    · exact ⟨f :: pre, rfl, hp⟩
    · split
      · exact ⟨f :: pre, rfl, hp⟩
      · exact pop_keeps e t a rest hu pre (fun g hg => hp g (by simp [hg]))
/-- the subtree of an earlier file's name is found -/
theorem pop_finds (a : List Int) (rest : List (List Int)) : ∀ pre : List (List Int), (∀ f ∈ pre, a.length < f.length) → (pop a true (pre ++ a :: rest)).1 = true
  | [], _ => by simp [pop]
  | f :: pre, hp => by
    simp only [List.cons_append, pop]
    split
    · rfl
    · have : under a f = false := by
        have := hp f (by simp)
        simp [under]
        omega
      rw [this]
      exact pop_finds a rest pre (fun g hg => hp g (by simp [hg]))

def nm (es : List (List Int × Bool)) (i : Nat) : List Int := (es.getD i ([], false)).1
def tr (es : List (List Int × Bool)) (i : Nat) : Bool := (es.getD i ([], false)).2
def keyAt (es : List (List Int × Bool)) (i : Nat) : List Int := key (nm es i) (tr es i)
/-- zzValidEntriesB1 -/
def Valid (es : List (List Int × Bool)) : Prop :=
  (∀ i, i + 1 < es.length → lex (keyAt es i) (keyAt es (i + 1)) < 0) ∧ ∀ i j, j < i → i < es.length → tr es i = true → tr es j = false → nm es j ≠ nm es i
/-- what the tree's reader does with the entries up to the place P: it takes each, and at P it refuses, if there is an entry -/
def RunsTo (es : List (List Int × Bool)) (P : Nat) : Prop :=
  P ≤ es.length ∧ (∀ i, i + 1 < es.length → i + 1 ≤ P → cmpE (nm es i) (tr es i) (nm es (i + 1)) (tr es (i + 1)) < 0) ∧
  (∀ i, i < P → (pop (nm es i) (tr es i) (filesAt es i)).1 = false) ∧ (P < es.length → (pop (nm es P) (tr es P) (filesAt es P)).1 = true)

theorem filesAt_succ (es : List (List Int × Bool)) (i : Nat) : filesAt es (i + 1) = next (nm es i) (tr es i) (filesAt es i) := rfl
theorem files_top {es : List (List Int × Bool)} {i : Nat} (h : tr es i = false) : filesAt es (i + 1) = nm es i :: (pop (nm es i) (tr es i) (filesAt es i)).2 := by
  rw [filesAt_succ, next, h]; rfl
theorem files_mem (es : List (List Int × Bool)) : ∀ i, ∀ f ∈ filesAt es i, ∃ k, k < i ∧ tr es k = false ∧ nm es k = f
  | 0, f, h => by simp [filesAt] at h
  | i + 1, f, h => by
    have old : f ∈ (pop (nm es i) (tr es i) (filesAt es i)).2 → ∃ k, k < i + 1 ∧ tr es k = false ∧ nm es k = f := by
      intro hf
      obtain ⟨p, hp⟩ := pop_tail (nm es i) (tr es i) (filesAt es i)
      obtain ⟨k, h1, h2⟩ := files_mem es i f (by rw [hp]; simp [hf])
      exact ⟨k, by omega, h2⟩
    rw [filesAt_succ, next] at h
    cases ht : tr es i with
    | true => rw [ht] at h old; simp only [if_true] at h; exact old h
    | false =>
      rw [ht] at h old
      simp only [Bool.false_eq_true, if_false, List.mem_cons] at h
      rcases h with rfl | h
      · exact ⟨i, by omega, ht, rfl⟩
      · exact old h
theorem filesAt_congr (es es' : List (List Int × Bool)) : ∀ i, (∀ k, k < i → es.getD k ([], false) = es'.getD k ([], false)) → filesAt es i = filesAt es' i
  | 0, _ => rfl
  | i + 1, h => by
    rw [filesAt_succ, filesAt_succ, filesAt_congr es es' i (fun k hk => h k (by omega)), nm, nm, tr, tr, h i (by omega)]
theorem accepts {es : List (List Int × Bool)} (hv : Valid es) (i : Nat) (hi : i < es.length) : (pop (nm es i) (tr es i) (filesAt es i)).1 = false := by
  cases h : (pop (nm es i) (tr es i) (filesAt es i)).1 with
  | false => rfl
  | true =>
    obtain ⟨h1, h2⟩ := pop_true _ _ _ h
    obtain ⟨k, hk, h3, h4⟩ := files_mem es i _ h2
    exact absurd h4 (hv.2 i k hk hi h1 h3)
theorem chain {es : List (List Int × Bool)} (hv : Valid es) (j : Nat) : ∀ d, j + d + 1 < es.length → lex (keyAt es j) (keyAt es (j + d + 1)) < 0
  | 0, h => hv.1 j h
  | d + 1, h => lex_trans _ _ _ (chain hv j d (by omega)) (hv.1 (j + d + 1) h)

/-- every entry of a valid sequence is taken -/
theorem runs_all {es : List (List Int × Bool)} (hn : ∀ i, i < es.length → okName (nm es i)) (hv : Valid es) : RunsTo es es.length :=
  ⟨Nat.le_refl _, fun i hi _ => cmpE_of_lex _ _ _ _ (hn i (by omega)).2 (hn (i + 1) hi).2 (hv.1 i hi), fun i hi => accepts hv i hi, fun h => absurd h (Nat.lt_irrefl _)⟩

theorem keeps {es : List (List Int × Bool)} {j : Nat} (hj : tr es j = false) : ∀ d, (∀ q, j < q → q < j + 1 + d → under (nm es q) (nm es j) = true) →
    ∃ pre rest, filesAt es (j + 1 + d) = pre ++ nm es j :: rest ∧ ∀ f ∈ pre, (nm es j).length < f.length
  | 0, _ => ⟨[], _, by rw [Nat.add_zero, files_top hj]; rfl, by simp⟩
  | d + 1, h => by
    obtain ⟨pre, rest, h1, h2⟩ := keeps hj d (fun q a b => h q a (by omega))
    have hu := h (j + 1 + d) (by omega) (by omega)
    obtain ⟨pre', h3, h4⟩ := pop_keeps (nm es (j + 1 + d)) (tr es (j + 1 + d)) (nm es j) rest hu pre h2
    rw [show j + 1 + (d + 1) = (j + 1 + d) + 1 from rfl, filesAt_succ, next, h1, h3]
    cases tr es (j + 1 + d) with
    | true => exact ⟨pre', rest, rfl, h4⟩
    | false =>
      refine ⟨nm es (j + 1 + d) :: pre', rest, rfl, ?_⟩
      intro f hf
      rcases List.mem_cons.1 hf with rfl | hf
      · simp [under] at hu
        exact hu.1.1
      · exact h4 f hf

/-- the entries with the subtree put in at the place p -/
def ins (es : List (List Int × Bool)) (p : Nat) (a : List Int) : List (List Int × Bool) := es.take p ++ (a, true) :: es.drop p
theorem ins_lt {es : List (List Int × Bool)} {p : Nat} {a : List Int} {k : Nat} (hp : p ≤ es.length) (hk : k < p) : (ins es p a).getD k ([], false) = es.getD k ([], false) := by
  have : k < (es.take p).length := by simp; omega
  simp only [ins, List.getD, List.getElem?_append_left this, List.getElem?_take_of_lt hk]
theorem ins_at {es : List (List Int × Bool)} {p : Nat} {a : List Int} (hp : p ≤ es.length) : (ins es p a).getD p ([], false) = (a, true) := by
  have : (es.take p).length = p := by simp; omega
  simp only [ins, List.getD]
  rw [List.getElem?_append_right (by omega), this]
  simp

/-- the subtree named as the j-th entry, a file, is refused at the place where its key falls -/
theorem runs_ins {es : List (List Int × Bool)} {j p : Nat} (hn : ∀ i, i < es.length → okName (nm es i)) (hv : Valid es) (hj : j < p) (hp : p ≤ es.length) (hf : tr es j = false)
    (hlow : ∀ q, j < q → q < p → lex (keyAt es q) (nm es j ++ [47]) < 0) : RunsTo (ins es p (nm es j)) p := by
  have hjl : j < es.length := by omega
  have hlen : (ins es p (nm es j)).length = es.length + 1 := by simp [ins]; omega
  have e1 : ∀ k, k < p → nm (ins es p (nm es j)) k = nm es k := fun k hk => by rw [nm, ins_lt hp hk]; rfl
  have e2 : ∀ k, k < p → tr (ins es p (nm es j)) k = tr es k := fun k hk => by rw [tr, ins_lt hp hk]; rfl
  have e3 : nm (ins es p (nm es j)) p = nm es j := by rw [nm, ins_at hp]
  have e4 : tr (ins es p (nm es j)) p = true := by rw [tr, ins_at hp]
  have e5 : ∀ i, i ≤ p → filesAt (ins es p (nm es j)) i = filesAt es i := fun i hi => filesAt_congr _ _ i (fun k hk => ins_lt hp (by omega))
  have hkj : keyAt es j = nm es j := by simp [keyAt, key, hf]
  have hund : ∀ q, j < q → q < p → under (nm es q) (nm es j) = true := by
    intro q h1 h2
    refine under_of _ _ (tr es q) ?_ (hlow q h1 h2)
    have := chain hv j (q - j - 1) (by omega)
    rw [show j + (q - j - 1) + 1 = q by omega, hkj] at this
    exact this
  refine ⟨by omega, ?_, ?_, ?_⟩
  · intro i hi hip
    by_cases h : i + 1 < p
    · rw [e1 i (by omega), e2 i (by omega), e1 (i + 1) h, e2 (i + 1) h]
      exact cmpE_of_lex _ _ _ _ (hn i (by omega)).2 (hn (i + 1) (by omega)).2 (hv.1 i (by omega))
    · have hip' : i + 1 = p := by omega
      rw [hip', e1 i (by omega), e2 i (by omega), e3, e4]
      refine cmpE_of_lex _ _ _ _ (hn i (by omega)).2 (hn j hjl).2 ?_
      have hk : key (nm es j) true = nm es j ++ [47] := rfl
      rw [hk]
      rcases Nat.lt_or_ge j i with h1 | h1
      · exact hlow i h1 (by omega)
      · obtain rfl : i = j := by omega
        have := lex_self_slash (nm es i)
        rw [hf]
        exact this
  · intro i hi
    rw [e1 i hi, e2 i hi, e5 i (by omega)]
    exact accepts hv i (by omega)
  · intro _
    rw [e3, e4, e5 p (Nat.le_refl _)]
    obtain ⟨pre, rest, h1, h2⟩ := keeps hf (p - j - 1) (fun q a b => hund q a (by omega))
    rw [show j + 1 + (p - j - 1) = p by omega] at h1
    rw [h1]
    exact pop_finds _ _ pre h2
end Pl
end Go.Proofs.Qxb6616724aFmt
