import Derived.Test.Qxb6616491aFixed
namespace Go.Proofs.Qxb6616491a
open Go.RowKit Go.Deep

/-- the input tree lies in memory -/
def tin (w : World) : BT ByteArray → Prop
  | .nil => True
  | .node b o op l r => w.cell? ⟨b, o, none⟩ = some (.string op) ∧ w.cell? ⟨b, o + 1, none⟩ = some l.ptr ∧ w.cell? ⟨b, o + 2, none⟩ = some r.ptr ∧ b < w.heap.size ∧ op.size ≤ maxLen ∧ tin w l ∧ tin w r
theorem tin_below {w w' : World} {B : Nat} (hb : Below B w w') (hB : w.heap.size ≤ B) : ∀ T : BT ByteArray, tin w T → tin w' T
  | .nil, _ => trivial
  | .node b o op l r, ⟨h1, h2, h3, h4, h7, h5, h6⟩ => by
    have hlt : b < B := by omega
    exact ⟨(hb.cell (p := ⟨b, o, none⟩) hlt).trans h1, (hb.cell (p := ⟨b, o + 1, none⟩) hlt).trans h2, (hb.cell (p := ⟨b, o + 2, none⟩) hlt).trans h3, Nat.lt_of_lt_of_le h4 hb.size, h7, tin_below hb hB l h5, tin_below hb hB r h6⟩
/-- how many nodes, with repetition -/
def sz : BT ByteArray → Nat
  | .nil => 0
  | .node _ _ _ l r => sz l + sz r + 1
theorem conj_sz : ∀ T : BT ByteArray, (conj T).length ≤ sz T + 1
  | .nil => by simp [conj, sz]
  | .node _ _ op l r => by
    have h1 := conj_sz l
    have h2 := conj_sz r
    unfold conj
    split
    · simp [sz]; omega
    · simp [sz]

/-- what 'buildExpr' leaves -/
def Copy (w : World) (T : BT ByteArray) (e : Ending) (w' : World) : Prop :=
  ∃ T', e = .returned T'.ptr ∧ rep w' T' ∧ sz T' = sz T ∧ Below w.heap.size w w' ∧ ∀ x ∈ blocks T', w.heap.size ≤ x

theorem neq25_nil (p : Option Addr) (w : World) : (binOp .neq 25 (.pointer p) (.pointer none)).run Try.prog w = .ok (.bool (!p.isNone)) w := run_neq_pointer_nil w 25 p Try.underlying25

theorem build_nil (w : World) : Calls Try.prog 11 #[.pointer none] w (Copy w .nil) := by
  go_enter Try.func11, Try.ntmps11
  go_wp2_with fail
  go_ret
  exact ⟨.nil, rfl, trivial, rfl, Below.refl _ _, by simp [blocks]⟩

/-- behind the first operand -/
def Mid (w : World) (op : ByteArray) (T1 : BT ByteArray) (W : World) : Prop :=
  W.cell? ⟨w.heap.size, 0, none⟩ = some (.string op) ∧ W.cell? ⟨w.heap.size, 1, none⟩ = some (val T1) ∧ W.cell? ⟨w.heap.size, 2, none⟩ = some .nilIface ∧ W.frozen? ⟨w.heap.size, 2, none⟩ = false ∧
  w.heap.size < W.heap.size ∧ rep W T1 ∧ (∀ x ∈ blocks T1, w.heap.size + 1 ≤ x) ∧ Below w.heap.size w W

theorem box_facts (w w1 : World) (op : ByteArray) (hb : Below (w.alloc (.cells #[.string op, .nilIface, .nilIface] 29)).heap.size (w.alloc (.cells #[.string op, .nilIface, .nilIface] 29)) w1) :
    w1.cell? ⟨w.heap.size, 0, none⟩ = some (.string op) ∧ w1.cell? ⟨w.heap.size, 1, none⟩ = some .nilIface ∧ w1.cell? ⟨w.heap.size, 2, none⟩ = some .nilIface ∧ w1.frozen? ⟨w.heap.size, 1, none⟩ = false ∧ w1.frozen? ⟨w.heap.size, 2, none⟩ = false ∧
      w.heap.size < w1.heap.size ∧ Below w.heap.size w w1 := by
  have hs := hb.size
  rw [World.size_alloc] at hb hs
  refine ⟨(hb.cell (p := ⟨w.heap.size, 0, none⟩) (by simp)).trans (by simp [go_sem]), (hb.cell (p := ⟨w.heap.size, 1, none⟩) (by simp)).trans (by simp [go_sem]), (hb.cell (p := ⟨w.heap.size, 2, none⟩) (by simp)).trans (by simp [go_sem]),
    (hb.frozen (p := ⟨w.heap.size, 1, none⟩) (by simp)).trans (by simp [go_sem]), (hb.frozen (p := ⟨w.heap.size, 2, none⟩) (by simp)).trans (by simp [go_sem]), hs, (below_new w _).trans (hb.mono (Nat.le_succ _))⟩

theorem mid_nil (w w1 : World) (op : ByteArray) (hb : Below (w.alloc (.cells #[.string op, .nilIface, .nilIface] 29)).heap.size (w.alloc (.cells #[.string op, .nilIface, .nilIface] 29)) w1) : Mid w op .nil w1 := by
  obtain ⟨c0, c1, c2, f1, f2, hz, hB⟩ := box_facts w w1 op hb
  exact ⟨c0, c1, c2, f2, hz, trivial, by simp [blocks], hB⟩
theorem mid_node (w w1 : World) (op : ByteArray) (b o : Nat) (op1 : ByteArray) (l r : BT ByteArray) (hb : Below (w.alloc (.cells #[.string op, .nilIface, .nilIface] 29)).heap.size (w.alloc (.cells #[.string op, .nilIface, .nilIface] 29)) w1)
    (hr : rep w1 (.node b o op1 l r)) (hbl : ∀ x ∈ blocks (.node b o op1 l r), (w.alloc (.cells #[.string op, .nilIface, .nilIface] 29)).heap.size ≤ x) :
    Mid w op (.node b o op1 l r) (w1.setCell ⟨w.heap.size, 1, none⟩ (.iface 25 (.pointer (some ⟨b, o, none⟩)))) := by
  obtain ⟨c0, c1, c2, f1, f2, hz, hB⟩ := box_facts w w1 op hb
  rw [World.size_alloc] at hbl
  exact ⟨(World.cell?_setCell_other _ _ _ _ (by intro e; cases e)).trans c0, World.cell?_setCell_same _ _ _ c1, (World.cell?_setCell_other _ _ _ _ (by intro e; cases e)).trans c2, by rw [World.frozen?_setCell]; exact f2, by rw [World.size_setCell]; exact hz,
    rep_set _ hr (fun x hx => by have := hbl x hx; omega), hbl, hB.setCell (p := ⟨w.heap.size, 1, none⟩) (Nat.le_refl _) _⟩

theorem fin_nil (w W w2 : World) (op : ByteArray) (b o : Nat) (T1 l r : BT ByteArray) (hM : Mid w op T1 W) (hb : Below W.heap.size W w2) (s1 : sz T1 = sz l) (s2 : sz .nil = sz r) : Copy w (.node b o op l r) (.returned (.pointer (some ⟨w.heap.size, 0, none⟩))) w2 := by
  obtain ⟨c0, c1, c2, f2, hz, hr, hbl, hB⟩ := hM
  refine ⟨.node w.heap.size 0 op T1 .nil, rfl, ⟨(hb.cell (p := ⟨w.heap.size, 0, none⟩) hz).trans c0, (hb.cell (p := ⟨w.heap.size, 1, none⟩) hz).trans c1, (hb.cell (p := ⟨w.heap.size, 2, none⟩) hz).trans c2, Nat.lt_of_lt_of_le hz hb.size, rep_below hb (Nat.le_refl _) _ hr, trivial⟩, by simp [sz] at *; omega, hB.trans (hb.mono hB.size), ?_⟩
  intro x hx
  simp only [blocks, List.mem_cons, List.mem_append] at hx
  rcases hx with rfl | hx | hx
  · exact Nat.le_refl _
  · have := hbl x hx; omega
  · cases hx
theorem fin_node (w W w2 : World) (op : ByteArray) (b o : Nat) (T1 l r : BT ByteArray) (b2 o2 : Nat) (op2 : ByteArray) (l2 r2 : BT ByteArray) (hM : Mid w op T1 W) (hb : Below W.heap.size W w2) (s1 : sz T1 = sz l) (s2 : sz (.node b2 o2 op2 l2 r2) = sz r)
    (hr2 : rep w2 (.node b2 o2 op2 l2 r2)) (hbl2 : ∀ x ∈ blocks (.node b2 o2 op2 l2 r2), W.heap.size ≤ x) :
    Copy w (.node b o op l r) (.returned (.pointer (some ⟨w.heap.size, 0, none⟩))) (w2.setCell ⟨w.heap.size, 2, none⟩ (.iface 25 (.pointer (some ⟨b2, o2, none⟩)))) := by
  obtain ⟨c0, c1, c2, f2, hz, hr, hbl, hB⟩ := hM
  refine ⟨.node w.heap.size 0 op T1 (.node b2 o2 op2 l2 r2), rfl, ⟨(World.cell?_setCell_other _ _ _ _ (by intro e; cases e)).trans ((hb.cell (p := ⟨w.heap.size, 0, none⟩) hz).trans c0), (World.cell?_setCell_other _ _ _ _ (by intro e; cases e)).trans ((hb.cell (p := ⟨w.heap.size, 1, none⟩) hz).trans c1),
    World.cell?_setCell_same _ _ _ ((hb.cell (p := ⟨w.heap.size, 2, none⟩) hz).trans c2), by rw [World.size_setCell]; exact Nat.lt_of_lt_of_le hz hb.size, rep_set _ (rep_below hb (Nat.le_refl _) _ hr) (fun x hx => by have := hbl x hx; omega), rep_set _ hr2 (fun x hx => by have := hbl2 x hx; omega)⟩, by simp [sz] at *; omega, (hB.trans (hb.mono hB.size)).setCell (p := ⟨w.heap.size, 2, none⟩) (Nat.le_refl _) _, ?_⟩
  intro x hx
  rw [blocks, List.mem_cons, List.mem_append] at hx
  rcases hx with rfl | hx | hx
  · exact Nat.le_refl _
  · have := hbl x hx; omega
  · have := hbl2 x hx; have := hB.size; omega

set_option maxHeartbeats 2000000 in
theorem build_node (b o : Nat) (op : ByteArray) (pl pr : Value) (l r : BT ByteArray) (w : World) (h1 : w.cell? ⟨b, o, none⟩ = some (.string op)) (h2 : w.cell? ⟨b, o + 1, none⟩ = some pl) (h3 : w.cell? ⟨b, o + 2, none⟩ = some pr) (h4 : b < w.heap.size)
    (Hl : Hid (∀ w1, Below w.heap.size w w1 → Calls Try.prog 11 #[pl] w1 (Copy w1 l))) (Hr : Hid (∀ w1, Below w.heap.size w w1 → Calls Try.prog 11 #[pr] w1 (Copy w1 r))) :
    Calls Try.prog 11 #[.pointer (some ⟨b, o, none⟩)] w (Copy w (.node b o op l r)) := by
  have H3 : Hid (w.cell? ⟨b, o + 2, none⟩ = some pr) := h3
  go_enter Try.func11, Try.ntmps11
  go_wp2_with fail
  clear h1 h2 h3
  refine (Hl.out _ (below_new w _)).mono ?_
  rintro e w1 ⟨T1, rfl, r1, s1, hb1, bl1⟩
  have hf := box_facts w w1 op hb1
  cases T1 with
  | nil =>
    have HM : Hid (Mid w op .nil w1) := mid_nil w w1 op hb1
    have k3 : w1.cell? ⟨b, o + 2, none⟩ = some pr := (hf.2.2.2.2.2.2.cell (p := ⟨b, o + 2, none⟩) h4).trans H3.out
    have k4 : w1.cell? ⟨w.heap.size, 2, none⟩ = some .nilIface := hf.2.2.1
    have k5 := hf.2.2.2.2.1
    have HS : Hid (sz .nil = sz l) := s1
    clear s1 bl1 hf hb1 r1
    simp only [BT.ptr]
    go_wp2_with fail
    refine (Hr.out _ HM.out.2.2.2.2.2.2.2).mono ?_
    rintro e w2 ⟨T2, rfl, r2, s2, hb2, bl2⟩
    have m4 := (hb2.cell (p := ⟨w.heap.size, 2, none⟩) HM.out.2.2.2.2.1).trans k4
    have m5 := (hb2.frozen (p := ⟨w.heap.size, 2, none⟩) HM.out.2.2.2.2.1).trans k5
    clear k3 k4 k5
    have HB2 : Hid (Below w1.heap.size w1 w2) := hb2
    cases T2 with
    | nil =>
      have HS2 : Hid (sz .nil = sz r) := s2
      clear s2 bl2 hb2 r2
      simp only [BT.ptr]
      go_wp2_with fail
      go_ret
      exact fin_nil w w1 w2 op b o .nil l r HM.out HB2.out HS.out HS2.out
    | node b2 o2 op2 l2 r2' =>
      have HS2 : Hid (sz (.node b2 o2 op2 l2 r2') = sz r ∧ rep w2 (.node b2 o2 op2 l2 r2') ∧ ∀ x ∈ blocks (.node b2 o2 op2 l2 r2'), w1.heap.size ≤ x) := ⟨s2, r2, bl2⟩
      clear s2 bl2 hb2 r2
      simp only [BT.ptr]
      go_wp2_with fail
      go_ret
      exact fin_node w w1 w2 op b o .nil l r b2 o2 op2 l2 r2' HM.out HB2.out HS.out HS2.out.1 HS2.out.2.1 HS2.out.2.2
  | node b1 o1 op1 l1 r1' =>
    have HM : Hid (Mid w op (.node b1 o1 op1 l1 r1') (w1.setCell ⟨w.heap.size, 1, none⟩ (.iface 25 (.pointer (some ⟨b1, o1, none⟩))))) := mid_node w w1 op b1 o1 op1 l1 r1' hb1 r1 bl1
    have k1 := hf.2.1
    have k2 := hf.2.2.2.1
    have k3 : w1.cell? ⟨b, o + 2, none⟩ = some pr := (hf.2.2.2.2.2.2.cell (p := ⟨b, o + 2, none⟩) h4).trans H3.out
    have HS : Hid (sz (.node b1 o1 op1 l1 r1') = sz l) := s1
    clear s1 bl1 hf hb1 r1
    simp only [BT.ptr]
    go_wp2_with fail
    refine (Hr.out _ HM.out.2.2.2.2.2.2.2).mono ?_
    rintro e w2 ⟨T2, rfl, r2, s2, hb2, bl2⟩
    have m4 := (hb2.cell (p := ⟨w.heap.size, 2, none⟩) HM.out.2.2.2.2.1).trans HM.out.2.2.1
    have m5 := (hb2.frozen (p := ⟨w.heap.size, 2, none⟩) HM.out.2.2.2.2.1).trans HM.out.2.2.2.1
    clear k1 k2 k3
    have HB2 : Hid (Below (w1.setCell ⟨w.heap.size, 1, none⟩ (.iface 25 (.pointer (some ⟨b1, o1, none⟩)))).heap.size (w1.setCell ⟨w.heap.size, 1, none⟩ (.iface 25 (.pointer (some ⟨b1, o1, none⟩)))) w2) := hb2
    cases T2 with
    | nil =>
      have HS2 : Hid (sz .nil = sz r) := s2
      clear s2 bl2 hb2 r2
      simp only [BT.ptr]
      go_wp2_with fail
      go_ret
      exact fin_nil w _ w2 op b o _ l r HM.out HB2.out HS.out HS2.out
    | node b2 o2 op2 l2 r2' =>
      have HS2 : Hid (sz (.node b2 o2 op2 l2 r2') = sz r ∧ rep w2 (.node b2 o2 op2 l2 r2') ∧ ∀ x ∈ blocks (.node b2 o2 op2 l2 r2'), (w1.setCell ⟨w.heap.size, 1, none⟩ (.iface 25 (.pointer (some ⟨b1, o1, none⟩)))).heap.size ≤ x) := ⟨s2, r2, bl2⟩
      clear s2 bl2 hb2 r2
      simp only [BT.ptr]
      go_wp2_with fail
      go_ret
      exact fin_node w _ w2 op b o _ l r b2 o2 op2 l2 r2' HM.out HB2.out HS.out HS2.out.1 HS2.out.2.1 HS2.out.2.2

theorem build_any : ∀ (T : BT ByteArray) (w : World), tin w T → Calls Try.prog 11 #[T.ptr] w (Copy w T)
  | .nil, w, _ => build_nil w
  | .node b o op l r, w, ⟨h1, h2, h3, h4, _, h5, h6⟩ =>
    build_node b o op l.ptr r.ptr l r w h1 h2 h3 h4 (fun w1 hb => build_any l w1 (tin_below hb (Nat.le_refl _) l h5)) (fun w1 hb => build_any r w1 (tin_below hb (Nat.le_refl _) r h6))
end Go.Proofs.Qxb6616491a
