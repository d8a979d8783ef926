import Derived.Test.Qxb6616491aDoorIsB
namespace Go.Proofs.Qxb6616491aDoor
open Go.RowKit Go.Extern.Stop Go.Stop Go.Extern

/-- the outcome by what errors.Is answers at the two marks -/
def out (r0 r1 : Bool) : ByteArray := if r0 then ⟨#[100, 117, 112, 108, 105, 99, 97, 116, 101, 95, 107, 101, 121]⟩ else if r1 then ⟨#[98, 97, 100, 95, 118, 97, 108, 117, 101]⟩ else ⟨#[]⟩

theorem fo12 (v : Value) (d c : Addr) (r0 r1 : Bool) (w : World) (g0 : w.cell? ⟨0, 0, none⟩ = some (.iface 33 (.pointer (some d)))) (g1 : w.cell? ⟨1, 0, none⟩ = some (.iface 33 (.pointer (some c))))
    (H0 : Hid (Calls Tryd.prog 15 #[v, .iface 33 (.pointer (some d))] w fun e w' => e = .returned (.bool r0) ∧ w' = w)) (H1 : Hid (Calls Tryd.prog 15 #[v, .iface 33 (.pointer (some c))] w fun e w' => e = .returned (.bool r1) ∧ w' = w)) :
    Calls Tryd.prog 12 #[v] w fun e w' => e = .returned (.string (out r0 r1)) ∧ w' = w := by
  go_enter Tryd.func12, Tryd.ntmps12
  go_wp2_with fail
  refine H0.out.mono ?_
  rintro e w1 ⟨rfl, rfl⟩
  cases r0 with
  | true =>
    go_wp2_with fail
    go_ret
    exact ⟨rfl, rfl⟩
  | false =>
    go_wp2_with fail
    refine H1.out.mono ?_
    rintro e w2 ⟨rfl, rfl⟩
    cases r1 with
    | true =>
      go_wp2_with fail
      go_ret
      exact ⟨rfl, rfl⟩
    | false =>
      go_wp2_with fail
      go_ret
      exact ⟨rfl, rfl⟩
theorem fo6 (v : Value) (s : ByteArray) (w : World) (H : Hid (Calls Tryd.prog 12 #[v] w fun e w' => e = .returned (.string s) ∧ w' = w)) :
    Calls Tryd.prog 6 #[v] w fun e w' => e = .returned (.string s) ∧ w' = w := by
  go_enter Tryd.func6, Tryd.ntmps6
  go_wp2_with fail
  refine H.out.mono ?_
  rintro e w1 ⟨rfl, rfl⟩
  go_wp2_with fail
  go_ret
  exact ⟨rfl, rfl⟩

theorem err7 (v : Value) (w : World) (g0 : w.cell? ⟨0, 0, none⟩ = some v) : Calls Tryd.prog 7 #[] w fun e w' => e = .returned v ∧ w' = w := by
  go_enter Tryd.func7, Tryd.ntmps7
  go_wp2_with fail
  go_ret
  exact ⟨rfl, rfl⟩
theorem err8 (v : Value) (w : World) (g0 : w.cell? ⟨1, 0, none⟩ = some v) : Calls Tryd.prog 8 #[] w fun e w' => e = .returned v ∧ w' = w := by
  go_enter Tryd.func8, Tryd.ntmps8
  go_wp2_with fail
  go_ret
  exact ⟨rfl, rfl⟩
theorem new9 (s : ByteArray) (w : World) : Calls Tryd.prog 9 #[.string s] w fun e w' => e = .returned (.iface 33 (.pointer (some ⟨w.heap.size, 0, none⟩))) ∧ w' = w.alloc (.cells #[.string s] 35) := by
  go_enter Tryd.func9, Tryd.ntmps9
  go_wp2
  go_ret
  exact ⟨rfl, rfl⟩

theorem bytes5 (a b : ByteArray) (w : World) (ha : a.size ≤ maxLen) (hb : b.size ≤ maxLen) : Calls Tryd.prog 5 #[.string a, .string b] w fun e w' => e = .returned (.bool (decide (a.size + b.size ≤ 1048576))) ∧ w' = w := by
  unfold maxLen at ha hb
  by_cases h1 : (1048576 : Int) < (a.size : Int)
  · have e : decide (a.size + b.size ≤ 1048576) = false := by simp; omega
    rw [e]
    clear e
    go_enter Tryd.func5, Tryd.ntmps5
    go_wp2
    go_ret
    exact ⟨rfl, rfl⟩
  by_cases h2 : (1048576 : Int) < (b.size : Int)
  · have e : decide (a.size + b.size ≤ 1048576) = false := by simp; omega
    rw [e]
    clear e
    go_enter Tryd.func5, Tryd.ntmps5
    go_wp2
    go_ret
    exact ⟨rfl, rfl⟩
  by_cases h3 : (1048576 : Int) < (a.size : Int) + (b.size : Int)
  · have e : decide (a.size + b.size ≤ 1048576) = false := by simp; omega
    rw [e]
    clear e
    go_enter Tryd.func5, Tryd.ntmps5
    go_wp2
    go_ret
    exact ⟨rfl, rfl⟩
  · have e : decide (a.size + b.size ≤ 1048576) = true := by simp; omega
    rw [e]
    clear e
    go_enter Tryd.func5, Tryd.ntmps5
    go_wp2
    go_ret
    exact ⟨rfl, rfl⟩

set_option maxHeartbeats 1000000 in
theorem join10 (t0 t1 : TypeId) (v0 v1 : Value) (w : World) :
    Calls Tryd.prog 10 #[.iface t0 v0, .iface t1 v1] w fun e w' => e = .returned (.iface 37 (.pointer (some ⟨w.heap.size + 2, 0, none⟩))) ∧ Below w.heap.size w w' ∧
      w'.cell? ⟨w.heap.size + 2, 0, none⟩ = some (.slice (some ⟨w.heap.size + 1, 0, none⟩) 2 2) ∧ w'.cell? ⟨w.heap.size + 1, 0, none⟩ = some (.iface t0 v0) ∧ w'.cell? ⟨w.heap.size + 1, 1, none⟩ = some (.iface t1 v1) ∧ w.heap.size + 3 ≤ w'.heap.size := by
  have hmk : ∀ w, (Instr.makeSlice 36 (.int .i64 0) (.int .i64 2)).run Tryd.prog w = .ok (.slice (some ⟨w.heap.size, 0, none⟩) 0 2) (w.alloc (.cells #[.nilIface, .nilIface] 26)) := fun _ => by kernel_rfl
  go_enter Tryd.func10, Tryd.ntmps10
  go_wp2
  refine wp_loop_rounds 3 ?_
  rw [rounds_succ]
  go_wp2
  rw [rounds_succ]
  go_wp2
  rw [rounds_succ]
  go_wp2
  refine wp_loop_rounds 3 ?_
  rw [rounds_succ]
  go_wp2
  rw [rounds_succ]
  go_wp2
  rw [rounds_succ]
  go_wp2
  go_ret
  refine ⟨rfl, ?_, ?_, ?_, ?_, ?_⟩
  · exact (((((Below.refl _ _).alloc (Nat.le_refl _) _).alloc (by simp) _).alloc (by simp; omega) _).alloc (by simp; omega) _).alloc (by simp; omega) _
  · simp [go_sem]
  · simp [go_sem]
  · simp [go_sem]
  · simp

/-! ### the law -/
/-- an error of errors.New's make lies there -/
def Str (w : World) (a : Addr) : Prop := ∃ c t, w.heap[a.block]? = some (.cells c t (0, 0))
theorem str_lt {w : World} {a : Addr} (h : Str w a) : a.block < w.heap.size := by
  obtain ⟨c, t, h⟩ := h
  rcases Nat.lt_or_ge a.block w.heap.size with hl | hl
  · exact hl
  · rw [Array.getElem?_eq_none hl] at h; cases h
theorem str_below {w w' : World} {a : Addr} (hb : Below w.heap.size w w') (h : Str w a) : Str w' a := by
  have hl := str_lt h
  obtain ⟨c, t, h⟩ := h
  exact ⟨c, t, by rw [hb.block _ hl]; exact h⟩
theorem str_new (w : World) (s : ByteArray) : Str (w.alloc (.cells #[.string s] 35)) ⟨w.heap.size, 0, none⟩ := ⟨_, _, heap_alloc_new w _⟩

/-- the two marks lie there -/
def Base (w : World) (d c : Addr) : Prop :=
  w.cell? ⟨0, 0, none⟩ = some (.iface 33 (.pointer (some d))) ∧ w.cell? ⟨1, 0, none⟩ = some (.iface 33 (.pointer (some c))) ∧ Str w d ∧ Str w c ∧ 2 ≤ w.heap.size
theorem base_below {w w' : World} {d c : Addr} (hb : Below w.heap.size w w') (h : Base w d c) : Base w' d c := by
  obtain ⟨h1, h2, h3, h4, h5⟩ := h
  exact ⟨(hb.cell (p := ⟨0, 0, none⟩) (by show 0 < _; omega)).trans h1, (hb.cell (p := ⟨1, 0, none⟩) (by show 1 < _; omega)).trans h2, str_below hb h3, str_below hb h4, Nat.le_trans h5 hb.size⟩

/-- what errors.is answers -/
def IsR (w : World) (v : Value) (b : Addr) (r : Bool) : Prop := Calls Tryd.prog 17 #[v, .iface 33 (.pointer (some b)), .bool true] w fun e w' => e = .returned (.bool r) ∧ w' = w
theorem isR_same (w : World) (a : Addr) : IsR w (.iface 33 (.pointer (some a))) a true := is_same a w
theorem isR_other {w : World} {a b : Addr} (ha : Str w a) (hb : Str w b) (hne : a ≠ b) : IsR w (.iface 33 (.pointer (some a))) b false := by
  obtain ⟨ca, ta, ha⟩ := ha
  obtain ⟨cb, tb, hb⟩ := hb
  exact is_other a b ca cb ta tb w hne ha hb
/-- a joined error lies there -/
def Jn (w : World) (j : Nat) (t0 t1 : TypeId) (v0 v1 : Value) : Prop :=
  w.cell? ⟨j + 2, 0, none⟩ = some (.slice (some ⟨j + 1, 0, none⟩) 2 2) ∧ w.cell? ⟨j + 1, 0, none⟩ = some (.iface t0 v0) ∧ w.cell? ⟨j + 1, 1, none⟩ = some (.iface t1 v1) ∧ j + 3 ≤ w.heap.size
theorem jn_below {w w' : World} {j : Nat} {t0 t1 : TypeId} {v0 v1 : Value} (hb : Below w.heap.size w w') (h : Jn w j t0 t1 v0 v1) : Jn w' j t0 t1 v0 v1 := by
  obtain ⟨h1, h2, h3, h4⟩ := h
  exact ⟨(hb.cell (p := ⟨j + 2, 0, none⟩) (by show j + 2 < _; omega)).trans h1, (hb.cell (p := ⟨j + 1, 0, none⟩) (by show j + 1 < _; omega)).trans h2, (hb.cell (p := ⟨j + 1, 1, none⟩) (by show j + 1 < _; omega)).trans h3, Nat.le_trans h4 hb.size⟩
theorem isR_join {w : World} {j : Nat} {t0 t1 : TypeId} {v0 v1 : Value} {b : Addr} {r0 r1 : Bool} (h : Jn w j t0 t1 v0 v1) (h0 : IsR w (.iface t0 v0) b r0) (h1 : IsR w (.iface t1 v1) b r1) : IsR w (.iface 37 (.pointer (some ⟨j + 2, 0, none⟩))) b (r0 || r1) :=
  is_join (j + 2) (j + 1) 2 t0 t1 v0 v1 b r0 r1 w h.1 h.2.1 h.2.2.1 h0 h1

theorem fo_any {w : World} {t : TypeId} {v : Value} {d c : Addr} {r0 r1 : Bool} (hB : Base w d c) (h0 : IsR w (.iface t v) d r0) (h1 : IsR w (.iface t v) c r1) : Calls Tryd.prog 6 #[.iface t v] w fun e w' => e = .returned (.string (out r0 r1)) ∧ w' = w :=
  fo6 _ _ w (fo12 _ d c r0 r1 w hB.1 hB.2.1 (Is_of t v d r0 w h0) (Is_of t v c r1 w h1))
theorem fo_nil {w : World} {d c : Addr} (hB : Base w d c) : Calls Tryd.prog 6 #[.nilIface] w fun e w' => e = .returned (.string (out false false)) ∧ w' = w :=
  fo6 _ _ w (fo12 _ d c false false w hB.1 hB.2.1 (Is_nil d w) (Is_nil c w))
theorem new_any (s : ByteArray) (w : World) : Calls Tryd.prog 9 #[.string s] w fun e w' => e = .returned (.iface 33 (.pointer (some ⟨w.heap.size, 0, none⟩))) ∧ Below w.heap.size w w' ∧ Str w' ⟨w.heap.size, 0, none⟩ :=
  (new9 s w).mono (by rintro e w' ⟨rfl, rfl⟩; exact ⟨rfl, (Below.refl _ _).alloc (Nat.le_refl _) _, str_new w s⟩)
theorem join_any (t0 t1 : TypeId) (v0 v1 : Value) (w : World) : Calls Tryd.prog 10 #[.iface t0 v0, .iface t1 v1] w fun e w' => e = .returned (.iface 37 (.pointer (some ⟨w.heap.size + 2, 0, none⟩))) ∧ Below w.heap.size w w' ∧ Jn w' w.heap.size t0 t1 v0 v1 :=
  join10 t0 t1 v0 v1 w
theorem ne_new {w : World} {a : Addr} (h : Str w a) : (⟨w.heap.size, 0, none⟩ : Addr) ≠ a := by
  intro e
  have := str_lt h
  rw [← e] at this
  simp at this

end Go.Proofs.Qxb6616491aDoor
