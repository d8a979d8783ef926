import Derived.Test.Qxb6616491aConj
namespace Go.Proofs.Qxb6616491a
open Go.RowKit Go.Deep

/-- a term: an operator node without operands -/
def lf (l : Nat × ByteArray) : BT ByteArray := .node l.1 0 l.2 .nil .nil
def tm (l : Nat × ByteArray) : List Value := conj (lf l)
/-- the terms in written order -/
def tms (ls : List (Nat × ByteArray)) : List Value := ls.flatMap tm
theorem tms_snoc (ls : List (Nat × ByteArray)) (l : Nat × ByteArray) : tms (ls ++ [l]) = tms ls ++ tm l := by simp [tms]
theorem tms_app (a b : List (Nat × ByteArray)) : tms (a ++ b) = tms a ++ tms b := by simp [tms]
theorem tm_len (l : Nat × ByteArray) : (tm l).length ≤ 2 := by
  unfold tm lf conj; split <;> simp [conj]
theorem tms_len : ∀ ls : List (Nat × ByteArray), (tms ls).length ≤ 2 * ls.length
  | [] => by simp [tms]
  | l :: ls => by
    have h1 := tm_len l
    have h2 := tms_len ls
    simp only [tms, List.flatMap_cons, List.length_append, List.length_cons] at *
    omega

/-- a slice of terms lies in memory: the pointers, and what each points to -/
def Leaves (w : World) (b off : Nat) (ls : List (Nat × ByteArray)) : Prop :=
  b < w.heap.size ∧ ∀ i l, ls[i]? = some l → w.cell? ⟨b, off + i, none⟩ = some (.pointer (some ⟨l.1, 0, none⟩)) ∧ rep w (lf l)
theorem leaves_below {w w' : World} {b off : Nat} {ls : List (Nat × ByteArray)} (hb : Below w.heap.size w w') (h : Leaves w b off ls) : Leaves w' b off ls :=
  ⟨Nat.lt_of_lt_of_le h.1 hb.size, fun i l hi => ⟨(hb.cell (p := ⟨b, off + i, none⟩) h.1).trans (h.2 i l hi).1, rep_below hb (Nat.le_refl _) _ (h.2 i l hi).2⟩⟩

/-- the blocks of a tree's nodes -/
def blocks : BT ByteArray → List Nat
  | .nil => []
  | .node b _ _ l r => b :: (blocks l ++ blocks r)

/-- what a chain leaves: a pointer to a tree whose terms are these -/
def Chain (w : World) (ls : List (Nat × ByteArray)) (e : Ending) (w' : World) : Prop :=
  ∃ T b, e = .returned (.pointer (some ⟨b, 0, none⟩)) ∧ val T = .iface 25 (.pointer (some ⟨b, 0, none⟩)) ∧ rep w' T ∧ conj T = tms ls ∧ Below w.heap.size w w' ∧ ∀ k ∈ blocks T, k ∈ ls.map (·.1) ∨ w.heap.size ≤ k

theorem isAnd_AND : isAnd ⟨#[65, 78, 68]⟩ = true := by decide +kernel

/-- one node more -/
theorem rep_new {w : World} {l r : BT ByteArray} (hl : rep w l) (hr : rep w r) (u v : Value) (hu : u = val l) (hv : v = val r) :
    rep (w.alloc (.cells #[.string ⟨#[65, 78, 68]⟩, u, v] 29)) (.node w.heap.size 0 ⟨#[65, 78, 68]⟩ l r) := by
  have hb : Below w.heap.size w (w.alloc (.cells #[.string ⟨#[65, 78, 68]⟩, u, v] 29)) := (Below.refl _ _).alloc (Nat.le_refl _) _
  subst hu; subst hv
  exact ⟨by simp [go_sem], by simp [go_sem], by simp [go_sem], by simp, rep_below hb (Nat.le_refl _) _ hl, rep_below hb (Nat.le_refl _) _ hr⟩

theorem take_snoc {α : Type} {l : List α} {k : Nat} {a : α} (h : l[k]? = some a) : l.take (k + 1) = l.take k ++ [a] := by
  rw [List.take_add_one, h]; rfl

theorem left_start (w : World) (b off n : Nat) (ls : List (Nat × ByteArray)) (l0 : Nat × ByteArray) (hL : Leaves w b off ls) (hl0 : ls[0]? = some l0) (_hn : ls.length = n) (h0 : 0 < n) :
    ∃ (k : Nat) (T : BT ByteArray) (tb : Nat), 1 ≤ k ∧ k ≤ n ∧ Value.int .i64 1 = .int .i64 k ∧ Value.pointer (some ⟨l0.1, 0, none⟩) = .pointer (some ⟨tb, 0, none⟩) ∧ val T = .iface 25 (.pointer (some ⟨tb, 0, none⟩)) ∧ rep w T ∧ conj T = tms (ls.take k) ∧ Below w.heap.size w w ∧ ∀ x ∈ blocks T, x ∈ ls.map (·.1) ∨ w.heap.size ≤ x := by
  obtain ⟨rest, rfl⟩ : ∃ rest, ls = l0 :: rest := by
    cases ls with
    | nil => simp at hl0
    | cons a r => simp at hl0; subst hl0; exact ⟨r, rfl⟩
  refine ⟨1, lf l0, l0.1, by omega, by omega, rfl, rfl, rfl, (hL.2 0 l0 hl0).2, by simp [tms, tm], Below.refl _ _, ?_⟩
  intro x hx
  simp [lf, blocks] at hx
  simp [hx]

theorem left_step (w wr : World) (b off n : Nat) (ls : List (Nat × ByteArray)) (k : Nat) (T : BT ByteArray) (tb : Nat) (lk : Nat × ByteArray) (hL : Leaves w b off ls)
    (hI : val T = .iface 25 (.pointer (some ⟨tb, 0, none⟩)) ∧ rep wr T ∧ conj T = tms (ls.take k) ∧ Below w.heap.size w wr ∧ ∀ x ∈ blocks T, x ∈ ls.map (·.1) ∨ w.heap.size ≤ x) (hlk : ls[k]? = some lk) (hlt : k < n) :
    ∃ (k' : Nat) (T' : BT ByteArray) (tb' : Nat), 1 ≤ k' ∧ k' ≤ n ∧ Value.int .i64 (↑k + 1) = .int .i64 k' ∧ Value.pointer (some ⟨wr.heap.size, 0, none⟩) = .pointer (some ⟨tb', 0, none⟩) ∧ val T' = .iface 25 (.pointer (some ⟨tb', 0, none⟩)) ∧
      rep (wr.alloc (.cells #[.string ⟨#[65, 78, 68]⟩, .iface 25 (.pointer (some ⟨tb, 0, none⟩)), .iface 25 (.pointer (some ⟨lk.1, 0, none⟩))] 29)) T' ∧ conj T' = tms (ls.take k') ∧
      Below w.heap.size w (wr.alloc (.cells #[.string ⟨#[65, 78, 68]⟩, .iface 25 (.pointer (some ⟨tb, 0, none⟩)), .iface 25 (.pointer (some ⟨lk.1, 0, none⟩))] 29)) ∧ ∀ x ∈ blocks T', x ∈ ls.map (·.1) ∨ w.heap.size ≤ x := by
  obtain ⟨hv, hT, hc, hb, hbl⟩ := hI
  have hlr := ((leaves_below hb hL).2 k lk hlk).2
  refine ⟨k + 1, .node wr.heap.size 0 ⟨#[65, 78, 68]⟩ T (lf lk), wr.heap.size, by omega, by omega, rfl, rfl, rfl, ?_, ?_, hb.alloc hb.size _, ?_⟩
  · exact rep_new hT hlr _ _ hv.symm rfl
  · have e : conj (.node wr.heap.size 0 ⟨#[65, 78, 68]⟩ T (lf lk)) = conj T ++ conj (lf lk) := by rw [conj, if_pos isAnd_AND]
    rw [e, hc, take_snoc hlk, tms_snoc]
    rfl
  · intro x hx
    simp only [blocks, List.mem_cons, List.mem_append] at hx
    rcases hx with rfl | hx | hx
    · exact .inr hb.size
    · exact hbl x hx
    · simp [lf, blocks] at hx
      exact .inl (by rw [hx]; exact List.mem_map_of_mem (List.mem_of_getElem? hlk))

set_option maxHeartbeats 1000000 in
theorem left_any (b off n c : Nat) (ls : List (Nat × ByteArray)) (w : World) (hn : ls.length = n) (h0 : 0 < n) (hm : n ≤ 4096) (hL : Leaves w b off ls) :
    Calls Try.prog 8 #[.slice (some ⟨b, off, none⟩) n c] w (Chain w ls) := by
  obtain ⟨l0, hl0⟩ : ∃ l, ls[0]? = some l := ⟨ls[0], by simp⟩
  have c0 := (hL.2 0 l0 hl0).1
  have hn1 : (0 : Int) < (n : Int) := by omega
  have HL : Hid (Leaves w b off ls) := hL
  clear hL
  simp only [Nat.add_zero] at c0
  go_enter Try.func8, Try.ntmps8
  go_wp2
  go_loopw [3, 4] (fun t i w' => ∃ (k : Nat) (T : BT ByteArray) (tb : Nat), 1 ≤ k ∧ k ≤ n ∧ i = .int .i64 k ∧ t = .pointer (some ⟨tb, 0, none⟩) ∧ val T = .iface 25 (.pointer (some ⟨tb, 0, none⟩)) ∧ rep w' T ∧ conj T = tms (ls.take k) ∧ Below w.heap.size w w' ∧ ∀ x ∈ blocks T, x ∈ ls.map (·.1) ∨ w.heap.size ≤ x) (fun _ i _ => n - (intOf i).toNat)
  case atStart => exact left_start w b off n ls l0 HL.out hl0 hn h0
  case round =>
    obtain ⟨k, T, tb, hk1, hkn, rfl, rfl, hv, hT, hc, hb, hbl⟩ := hrel
    have HI : Hid (val T = .iface 25 (.pointer (some ⟨tb, 0, none⟩)) ∧ rep wr T ∧ conj T = tms (ls.take k) ∧ Below w.heap.size w wr ∧ ∀ x ∈ blocks T, x ∈ ls.map (·.1) ∨ w.heap.size ≤ x) := ⟨hv, hT, hc, hb, hbl⟩
    clear hv hT hc hbl
    by_cases hlt : k < n
    · obtain ⟨lk, hlk⟩ : ∃ l, ls[k]? = some l := ⟨ls[k], by simp⟩
      have ck := ((leaves_below hb HL.out).2 k lk hlk).1
      have hbz := (leaves_below hb HL.out).1
      have Hlk : Hid (ls[k]? = some lk) := hlk
      clear hb hlk
      go_wp2
      go_roundw
      case rel => exact left_step w wr b off n ls k T tb lk HL.out HI.out Hlk.out hlt
      case measure => simp [intOf]; omega
    · have HB : Hid (Below w.heap.size w wr) := hb; clear hb
      go_wp2
      go_ret
      obtain ⟨hv, hT, hc, hb, hbl⟩ := HI.out
      exact ⟨T, tb, rfl, hv, hT, by rw [hc, List.take_of_length_le (by omega)], hb, hbl⟩

theorem right_start (w : World) (b off n : Nat) (ls : List (Nat × ByteArray)) (l0 : Nat × ByteArray) (hL : Leaves w b off ls) (hl0 : ls[n - 1]? = some l0) (hn : ls.length = n) (h0 : 0 < n) :
    ∃ (k : Nat) (T : BT ByteArray) (tb : Nat), k < n ∧ Value.int .i64 ((n : Int) - 2) = .int .i64 ((k : Int) - 1) ∧ Value.pointer (some ⟨l0.1, 0, none⟩) = .pointer (some ⟨tb, 0, none⟩) ∧ val T = .iface 25 (.pointer (some ⟨tb, 0, none⟩)) ∧ rep w T ∧ conj T = tms (ls.drop k) ∧ Below w.heap.size w w ∧ ∀ x ∈ blocks T, x ∈ ls.map (·.1) ∨ w.heap.size ≤ x := by
  refine ⟨n - 1, lf l0, l0.1, by omega, by congr 1; omega, rfl, rfl, (hL.2 _ l0 hl0).2, ?_, Below.refl _ _, ?_⟩
  · have hlt : n - 1 < ls.length := by omega
    rw [List.drop_eq_getElem_cons hlt]
    have e : ls[n - 1] = l0 := by rw [List.getElem?_eq_getElem hlt] at hl0; simpa using hl0
    rw [e, show n - 1 + 1 = ls.length from by omega]
    simp [tms, tm]
  · intro x hx
    simp [lf, blocks] at hx
    exact .inl (by rw [hx]; exact List.mem_map_of_mem (List.mem_of_getElem? hl0))

theorem right_step (w wr : World) (b off n : Nat) (ls : List (Nat × ByteArray)) (k : Nat) (T : BT ByteArray) (tb : Nat) (lk : Nat × ByteArray) (hL : Leaves w b off ls)
    (hI : val T = .iface 25 (.pointer (some ⟨tb, 0, none⟩)) ∧ rep wr T ∧ conj T = tms (ls.drop (k + 1)) ∧ Below w.heap.size w wr ∧ ∀ x ∈ blocks T, x ∈ ls.map (·.1) ∨ w.heap.size ≤ x) (hlk : ls[k]? = some lk) (hlt : k + 1 < n) :
    ∃ (k' : Nat) (T' : BT ByteArray) (tb' : Nat), k' < n ∧ Value.int .i64 ((k : Int) - 1) = .int .i64 ((k' : Int) - 1) ∧ Value.pointer (some ⟨wr.heap.size, 0, none⟩) = .pointer (some ⟨tb', 0, none⟩) ∧ val T' = .iface 25 (.pointer (some ⟨tb', 0, none⟩)) ∧
      rep (wr.alloc (.cells #[.string ⟨#[65, 78, 68]⟩, .iface 25 (.pointer (some ⟨lk.1, 0, none⟩)), .iface 25 (.pointer (some ⟨tb, 0, none⟩))] 29)) T' ∧ conj T' = tms (ls.drop k') ∧
      Below w.heap.size w (wr.alloc (.cells #[.string ⟨#[65, 78, 68]⟩, .iface 25 (.pointer (some ⟨lk.1, 0, none⟩)), .iface 25 (.pointer (some ⟨tb, 0, none⟩))] 29)) ∧ ∀ x ∈ blocks T', x ∈ ls.map (·.1) ∨ w.heap.size ≤ x := by
  obtain ⟨hv, hT, hc, hb, hbl⟩ := hI
  have hlr := ((leaves_below hb hL).2 k lk hlk).2
  refine ⟨k, .node wr.heap.size 0 ⟨#[65, 78, 68]⟩ (lf lk) T, wr.heap.size, by omega, rfl, rfl, rfl, ?_, ?_, hb.alloc hb.size _, ?_⟩
  · exact rep_new hlr hT _ _ rfl hv.symm
  · have e : conj (.node wr.heap.size 0 ⟨#[65, 78, 68]⟩ (lf lk) T) = conj (lf lk) ++ conj T := by rw [conj, if_pos isAnd_AND]
    have hl' : k < ls.length := by
      rcases Nat.lt_or_ge k ls.length with h | h
      · exact h
      · rw [List.getElem?_eq_none h] at hlk; cases hlk
    have e2 : ls[k] = lk := by rw [List.getElem?_eq_getElem hl'] at hlk; simpa using hlk
    rw [e, hc, List.drop_eq_getElem_cons hl', e2]
    simp [tms, tm]
  · intro x hx
    simp only [blocks, List.mem_cons, List.mem_append] at hx
    rcases hx with rfl | hx | hx
    · exact .inr hb.size
    · simp [lf, blocks] at hx
      exact .inl (by rw [hx]; exact List.mem_map_of_mem (List.mem_of_getElem? hlk))
    · exact hbl x hx

set_option maxHeartbeats 1000000 in
theorem right_any (b off n c : Nat) (ls : List (Nat × ByteArray)) (w : World) (hn : ls.length = n) (h0 : 0 < n) (hm : n ≤ 4096) (hL : Leaves w b off ls) :
    Calls Try.prog 9 #[.slice (some ⟨b, off, none⟩) n c] w (Chain w ls) := by
  obtain ⟨l0, hl0⟩ : ∃ l, ls[n - 1]? = some l := ⟨ls[n - 1], by simp⟩
  have c0 := (hL.2 _ l0 hl0).1
  have hn0 : (0 : Int) ≤ (n : Int) - 1 := by omega
  have e1 : ((n : Int) - 1).toNat = n - 1 := by omega
  have HL : Hid (Leaves w b off ls) := hL
  have Hl0 : Hid (ls[n - 1]? = some l0) := hl0
  clear hL hl0
  go_enter Try.func9, Try.ntmps9
  go_wp2
  go_loopw [3, 4] (fun t i w' => ∃ (k : Nat) (T : BT ByteArray) (tb : Nat), k < n ∧ i = .int .i64 ((k : Int) - 1) ∧ t = .pointer (some ⟨tb, 0, none⟩) ∧ val T = .iface 25 (.pointer (some ⟨tb, 0, none⟩)) ∧ rep w' T ∧ conj T = tms (ls.drop k) ∧ Below w.heap.size w w' ∧ ∀ x ∈ blocks T, x ∈ ls.map (·.1) ∨ w.heap.size ≤ x) (fun _ i _ => (intOf i + 1).toNat)
  case atStart => exact right_start w b off n ls l0 HL.out Hl0.out hn h0
  case round =>
    obtain ⟨k, T, tb, hkn, rfl, rfl, hv, hT, hc, hb, hbl⟩ := hrel
    by_cases hlt : 0 < k
    · obtain ⟨k, rfl⟩ : ∃ j, k = j + 1 := ⟨k - 1, by omega⟩
      have HI : Hid (val T = .iface 25 (.pointer (some ⟨tb, 0, none⟩)) ∧ rep wr T ∧ conj T = tms (ls.drop (k + 1)) ∧ Below w.heap.size w wr ∧ ∀ x ∈ blocks T, x ∈ ls.map (·.1) ∨ w.heap.size ≤ x) := ⟨hv, hT, hc, hb, hbl⟩
      clear hv hT hc hbl
      obtain ⟨lk, hlk⟩ : ∃ l, ls[k]? = some l := ⟨ls[k]'(by omega), by simp⟩
      have ck := ((leaves_below hb HL.out).2 k lk hlk).1
      have hbz := (leaves_below hb HL.out).1
      have Hlk : Hid (ls[k]? = some lk) := hlk
      clear hb hlk
      rw [show (((k + 1 : Nat) : Int) - 1) = (k : Int) from by omega]
      go_wp2
      go_roundw
      case rel => exact right_step w wr b off n ls k T tb lk HL.out HI.out Hlk.out hkn
      case measure => simp [intOf]
    · obtain rfl : k = 0 := by omega
      have HI : Hid (val T = .iface 25 (.pointer (some ⟨tb, 0, none⟩)) ∧ rep wr T ∧ conj T = tms (ls.drop 0) ∧ Below w.heap.size w wr ∧ ∀ x ∈ blocks T, x ∈ ls.map (·.1) ∨ w.heap.size ≤ x) := ⟨hv, hT, hc, hb, hbl⟩
      clear hv hT hc hb hbl
      go_wp2
      go_ret
      obtain ⟨hv, hT, hc, hb, hbl⟩ := HI.out
      exact ⟨T, tb, rfl, hv, hT, by rw [hc, List.drop_zero], hb, hbl⟩
end Go.Proofs.Qxb6616491a
