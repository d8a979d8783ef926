import Derived.Test.Qxb6616491aBytes
namespace Go.Proofs.Qxb6616491a
open Go.RowKit Go.Deep

/-- the terms, with the blocks that the loop makes for them -/
def mk (g : Nat) (ss : List ByteArray) : List (Nat × ByteArray) := ss.mapIdx fun j s => (g + 1 + j, s)
theorem mk_len (g : Nat) (ss : List ByteArray) : (mk g ss).length = ss.length := by simp [mk]
theorem mk_at (g : Nat) (ss : List ByteArray) (j : Nat) : (mk g ss)[j]? = (ss[j]?).map fun s => (g + 1 + j, s) := by simp [mk]

/-- behind k rounds of the loop that makes the terms -/
def Built (w w' : World) (g n : Nat) (ss : List ByteArray) (k : Nat) : Prop :=
  Below w.heap.size w w' ∧ w'.heap.size = g + 1 + k ∧ w.heap.size ≤ g ∧
  (∀ j s, j < k → ss[j]? = some s → w'.cell? ⟨g, j, none⟩ = some (.pointer (some ⟨g + 1 + j, 0, none⟩)) ∧ rep w' (lf (g + 1 + j, s))) ∧
  (∀ j, j < n → (w'.cell? ⟨g, j, none⟩).isSome = true) ∧ ∀ j, w'.frozen? ⟨g, j, none⟩ = false

theorem built_start (w : World) (n : Nat) (ss : List ByteArray) : Built w (w.alloc (.cells (madeCells #[.pointer none] n) 25)) w.heap.size n ss 0 := by
  refine ⟨(Below.refl _ _).alloc (Nat.le_refl _) _, by simp, Nat.le_refl _, fun j s hj => by omega, fun j hj => ?_, fun j => by simp⟩
  have := size_madeCells #[Value.pointer none] n
  simp [hj, this]

theorem built_step (w w' : World) (g n : Nat) (ss : List ByteArray) (k : Nat) (s : ByteArray) (h : Built w w' g n ss k) (hs : ss[k]? = some s) (_hk : k < n) :
    Built w ((w'.alloc (.cells #[.string s, .nilIface, .nilIface] 29)).setCell ⟨g, k, none⟩ (.pointer (some ⟨w'.heap.size, 0, none⟩))) g n ss (k + 1) := by
  obtain ⟨hb, hsz, hg, hcells, hthere, hfz⟩ := h
  have hgw : g < w'.heap.size := by omega
  have hba : Below w'.heap.size w' (w'.alloc (.cells #[.string s, .nilIface, .nilIface] 29)) := (Below.refl _ _).alloc (Nat.le_refl _) _
  have far : ∀ (a : Addr) (v : Value), a.block ≠ g → ((w'.alloc (.cells #[.string s, .nilIface, .nilIface] 29)).setCell ⟨g, k, none⟩ v).cell? a = (w'.alloc (.cells #[.string s, .nilIface, .nilIface] 29)).cell? a := by
    intro a v ha
    refine World.cell?_setCell_other _ _ _ _ ?_
    intro e
    exact ha (by rw [← e])
  have repfar : ∀ (v : Value) (b : Nat) (op : ByteArray), b ≠ g → rep (w'.alloc (.cells #[.string s, .nilIface, .nilIface] 29)) (lf (b, op)) → rep ((w'.alloc (.cells #[.string s, .nilIface, .nilIface] 29)).setCell ⟨g, k, none⟩ v) (lf (b, op)) := by
    intro v b op hbg hr
    obtain ⟨h1, h2, h3, h4, _, _⟩ := hr
    exact ⟨(far _ _ hbg).trans h1, (far _ _ hbg).trans h2, (far _ _ hbg).trans h3, by simpa using h4, trivial, trivial⟩
  refine ⟨(hb.alloc hb.size _).setCell hg _, by simp; omega, hg, ?_, ?_, ?_⟩
  · intro j s' hj hs'
    rcases Nat.lt_or_ge j k with hjk | hjk
    · obtain ⟨c1, r1⟩ := hcells j s' hjk hs'
      refine ⟨?_, repfar _ _ _ (by omega) (rep_below hba (Nat.le_refl _) _ r1)⟩
      rw [World.cell?_setCell_other _ _ _ _ (by intro e; cases e; omega), hba.cell (p := ⟨g, j, none⟩) hgw]
      exact c1
    · obtain rfl : j = k := by omega
      obtain rfl : s = s' := by rw [hs] at hs'; simpa using hs'
      refine ⟨?_, ?_⟩
      · obtain ⟨u, hu⟩ := Option.isSome_iff_exists.1 (hthere j (by omega))
        rw [World.cell?_setCell_same _ _ _ (u := u) (by rw [hba.cell (p := ⟨g, j, none⟩) hgw]; exact hu), hsz]
      · refine repfar _ _ _ (by omega) ?_
        rw [← hsz]
        exact ⟨by simp [go_sem], by simp [go_sem, val], by simp [go_sem, val], by simp, trivial, trivial⟩
  · intro j hj
    by_cases hjk : j = k
    · subst hjk
      obtain ⟨u, hu⟩ := Option.isSome_iff_exists.1 (hthere j hj)
      rw [World.cell?_setCell_same _ _ _ (u := u) (by rw [hba.cell (p := ⟨g, j, none⟩) hgw]; exact hu)]
      rfl
    · rw [World.cell?_setCell_other _ _ _ _ (by intro e; cases e; exact hjk rfl), hba.cell (p := ⟨g, j, none⟩) hgw]
      exact hthere j hj
  · intro j
    rw [World.frozen?_setCell, hba.frozen (p := ⟨g, j, none⟩) hgw]
    exact hfz j

theorem built_end (w w' : World) (g n : Nat) (ss : List ByteArray) (hn : ss.length = n) (h : Built w w' g n ss n) : Leaves w' g 0 (mk g ss) := by
  obtain ⟨hb, hsz, hg, hcells, hthere, hfz⟩ := h
  refine ⟨by omega, ?_⟩
  intro i l hl
  rw [mk_at] at hl
  obtain ⟨s, hs, rfl⟩ := Option.map_eq_some_iff.1 hl
  have hi : i < n := by
    rcases Nat.lt_or_ge i n with h | h
    · exact h
    · rw [List.getElem?_eq_none (by omega)] at hs; cases hs
  have := hcells i s hi hs
  simpa using this

theorem leaves_take {w : World} {b off k : Nat} {ls : List (Nat × ByteArray)} (h : Leaves w b off ls) : Leaves w b off (ls.take k) :=
  ⟨h.1, fun i l hi => h.2 i l (by
    rw [List.getElem?_take] at hi
    split at hi
    · exact hi
    · cases hi)⟩
theorem leaves_drop {w : World} {b off k : Nat} {ls : List (Nat × ByteArray)} (h : Leaves w b off ls) : Leaves w b (off + k) (ls.drop k) :=
  ⟨h.1, fun i l hi => by
    rw [List.getElem?_drop] at hi
    have := h.2 (k + i) l hi
    rwa [← Nat.add_assoc] at this⟩

theorem rep_set {w : World} {m j : Nat} {v : Value} : ∀ T : BT ByteArray, rep w T → (∀ k ∈ blocks T, k ≠ m) → rep (w.setCell ⟨m, j, none⟩ v) T
  | .nil, _, _ => trivial
  | .node b o op l r, ⟨h1, h2, h3, h4, h5, h6⟩, hk => by
    have hbm : b ≠ m := hk b (by simp [blocks])
    have far : ∀ o, (w.setCell ⟨m, j, none⟩ v).cell? ⟨b, o, none⟩ = w.cell? ⟨b, o, none⟩ := fun o => World.cell?_setCell_other _ _ _ _ (by intro e; cases e; exact hbm rfl)
    exact ⟨(far _).trans h1, (far _).trans h2, (far _).trans h3, by simpa using h4, rep_set l h5 (fun k hk' => hk k (by simp [blocks, hk'])), rep_set r h6 (fun k hk' => hk k (by simp [blocks, hk']))⟩
end Go.Proofs.Qxb6616491a
