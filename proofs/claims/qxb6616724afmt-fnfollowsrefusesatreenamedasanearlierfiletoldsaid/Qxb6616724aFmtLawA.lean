import Derived.Test.Qxb6616724aFmtRun
namespace Go.Proofs.Qxb6616724aFmt
open Go.RowKit Go.Extern.Stop Go.Stop Go.Extern

theorem es_copies {w : World} {O : Nat} {vs us : List NV} {ms : List Int} (h : Copies w O vs us) (hl : us.length = vs.length) : es us ms = es vs ms := by
  apply List.ext_getElem?
  intro i
  simp only [es, List.getElem?_zipWith]
  cases hu : us[i]? with
  | none =>
    have : us.length ≤ i := List.getElem?_eq_none_iff.1 hu
    rw [List.getElem?_eq_none (by omega : vs.length ≤ i)]
  | some u =>
    obtain ⟨v, b, hv, hx, _⟩ := h.2 i u hu
    rw [hv]
    cases ms[i]? with
    | none => rfl
    | some m => simp [hx]

/-- x put in at the place p -/
def insL {α : Type} (l : List α) (p : Nat) (x : α) : List α := l.take p ++ x :: l.drop p
theorem insL_len {α : Type} (l : List α) (p : Nat) (x : α) (hp : p ≤ l.length) : (insL l p x).length = l.length + 1 := by
  simp [insL]
  omega
theorem insL_lt {α : Type} (l : List α) (p : Nat) (x : α) (k : Nat) (hk : k < p) (hp : p ≤ l.length) : (insL l p x)[k]? = l[k]? := by
  have : k < (l.take p).length := by simp; omega
  rw [insL, List.getElem?_append_left this, List.getElem?_take_of_lt hk]
theorem insL_at {α : Type} (l : List α) (p : Nat) (x : α) (hp : p ≤ l.length) : (insL l p x)[p]? = some x := by
  have : (l.take p).length = p := by simp; omega
  rw [insL, List.getElem?_append_right (by omega), this]
  simp
theorem insL_gt {α : Type} (l : List α) (p : Nat) (x : α) (k : Nat) (hk : p ≤ k) (hp : p ≤ l.length) : (insL l p x)[k + 1]? = l[k]? := by
  have : (l.take p).length = p := by simp; omega
  rw [insL, List.getElem?_append_right (by omega), this, show k + 1 - p = (k - p) + 1 by omega, List.getElem?_cons_succ, List.getElem?_drop]
  congr 1
  omega
theorem insL_mem {α : Type} {l : List α} {p : Nat} {x u : α} (h : u ∈ insL l p x) : u = x ∨ u ∈ l := by
  rw [insL, List.mem_append, List.mem_cons] at h
  rcases h with h | h | h
  · exact .inr (List.mem_of_mem_take h)
  · exact .inl h
  · exact .inr (List.mem_of_mem_drop h)
theorem es_ins {us : List NV} {ms : List Int} {p : Nat} {u : NV} (hl : us.length = ms.length) (hp : p ≤ us.length) : es (insL us p u) (insL ms p 16384) = Pl.ins (es us ms) p u.xs := by
  have h1 : (us.take p).length = (ms.take p).length := by simp; omega
  rw [es, insL, insL, List.zipWith_append h1, Pl.ins, es, List.take_zipWith, List.drop_zipWith]
  rfl

theorem take_step {α : Type} {l : List α} {k : Nat} {x : α} (h : l[k]? = some x) : l.take (k + 1) = l.take k ++ [x] := by
  rw [List.take_add_one, h]
  rfl

/-- two rows of unlike elements lie apart -/
theorem rows_apart {w : World} {B e e' n n' : Nat} {v v' : Value} {xs xs' : List Value} (hne : e ≠ e') (h : w.ownsRow B e 1 v n xs) (h' : w.ownsRow B e' 1 v' n' xs') : v.ownBlock = none ∨ v.ownBlock ≠ v'.ownBlock := by
  rcases h.2 with ⟨h0, _⟩ | ⟨g, cap, cur, h1, _, h3, _⟩
  · exact .inl (by rw [h0]; rfl)
  · right
    intro he
    rcases h'.2 with ⟨h0', _⟩ | ⟨g', cap', cur', h1', _, h3', _⟩
    · rw [h1, h0'] at he
      simp [Value.ownBlock] at he
    · rw [h1, h1'] at he
      simp [Value.ownBlock] at he
      subst he
      rw [h3] at h3'
      simp at h3'
      exact hne h3'.2

theorem ns_of_row {w : World} {B g N cap : Nat} {L : List NV} (h : w.ownsRow B 30 1 (.slice (some ⟨g, 0, none⟩) N cap) N (L.map NV.val)) (hN : N ≤ maxLen) (hb : ∀ u ∈ L, BS w u.a u.n u.c u.xs) : NS w (some ⟨g, 0, none⟩) N L := by
  have hl : L.length = N := by
    have := h.1
    simp at this
    omega
  refine ⟨hl, hN, fun i u hu => ⟨hb u (List.mem_of_getElem? hu), g, 0, rfl, (h.lt g rfl).2, ?_⟩⟩
  have := h.cells (g := g) rfl i u.val (by simp [hu])
  have hadd : (⟨g, 0, none⟩ : Addr).add i = ⟨g, 0 + i, none⟩ := by unfold Addr.add; split <;> simp_all
  rw [hadd] at this
  exact this
theorem ms_of_row {w : World} {B g N cap : Nat} {M : List Int} (h : w.ownsRow B 26 1 (.slice (some ⟨g, 0, none⟩) N cap) N (M.map (Value.int .u32))) (hN : N ≤ maxLen) : MS w (some ⟨g, 0, none⟩) N M := by
  have hl : M.length = N := by
    have := h.1
    simp at this
    omega
  refine ⟨hl, hN, fun i u hu => ⟨g, 0, rfl, (h.lt g rfl).2, ?_⟩⟩
  have := h.cells (g := g) rfl i (.int .u32 u) (by simp [hu])
  have hadd : (⟨g, 0, none⟩ : Addr).add i = ⟨g, 0 + i, none⟩ := by unfold Addr.add; split <;> simp_all
  rw [hadd] at this
  exact this

theorem info26 : ∃ i, Tryf.prog.info? 26 = some i ∧ i.zero = some (.int .u32 0) ∧ i.size = 1 ∧ i.bytes = 4 := by
  have h : (Tryf.prog.info? 26).map (fun i => (i.zero, i.size, i.bytes)) = some (some (.int .u32 0), 1, 4) := by kernel_rfl
  cases hi : Tryf.prog.info? 26 with
  | none => rw [hi] at h; cases h
  | some i => rw [hi] at h; simp at h; exact ⟨i, rfl, h.1, h.2.1, h.2.2⟩
theorem mk_names0 (n : Nat) (hn : n ≤ 1024) (w : World) : (Instr.makeSlice 22 (.int .i64 0) (.int .i64 ((n : Int) + 1))).run Tryf.prog w = .ok (.slice (some ⟨w.heap.size, 0, none⟩) 0 (n + 1)) (w.alloc (.cells (madeCells #[.slice none 0 0] (n + 1)) 30)) := by
  obtain ⟨i, h1, h2, h3, h4⟩ := info30
  have := run_make (P := Tryf.prog) w 22 30 i (.slice none 0 0) Tryf.underlying22 h1 h2 .i64 .i64 0 ((n : Int) + 1) (Int.le_refl _) (by omega) (by rw [h4]; omega) (by omega)
  have e : ((n : Int) + 1).toNat = n + 1 := by omega
  rw [h3, e, Nat.mul_one] at this
  exact this
theorem mk_modes0 (n : Nat) (hn : n ≤ 1024) (w : World) : (Instr.makeSlice 23 (.int .i64 0) (.int .i64 ((n : Int) + 1))).run Tryf.prog w = .ok (.slice (some ⟨w.heap.size, 0, none⟩) 0 (n + 1)) (w.alloc (.cells (madeCells #[.int .u32 0] (n + 1)) 26)) := by
  obtain ⟨i, h1, h2, h3, h4⟩ := info26
  have := run_make (P := Tryf.prog) w 23 26 i (.int .u32 0) Tryf.underlying23 h1 h2 .i64 .i64 0 ((n : Int) + 1) (Int.le_refl _) (by omega) (by rw [h4]; omega) (by omega)
  have e : ((n : Int) + 1).toNat = n + 1 := by omega
  rw [h3, e, Nat.mul_one] at this
  exact this
theorem own_made (w : World) (z : Value) (e n : Nat) (hn : n ≤ 1024) (B : Nat) (hB : B ≤ w.heap.size) : (w.alloc (.cells (madeCells #[z] (n + 1)) e)).ownsRow B e 1 (.slice (some ⟨w.heap.size, 0, none⟩) 0 (n + 1)) 0 [] :=
  World.ownsRow_made w _ (n + 1) hB (by unfold maxLen; omega) (by rw [size_madeCells]; omega)

/-- the two rows that the law fills: k names, k' modes -/
def Rows2 (W7 wx : World) (L : List NV) (M : List Int) (k k' : Nat) (v9 v10 : Value) : Prop :=
  wx.ownsRow W7.heap.size 30 1 v9 k ((L.take k).map NV.val) ∧ wx.ownsRow W7.heap.size 26 1 v10 k' ((M.take k').map (Value.int .u32)) ∧ Below W7.heap.size W7 wx ∧
  (∃ g c, v9 = .slice (some ⟨g, 0, none⟩) k c) ∧ ∃ g c, v10 = .slice (some ⟨g, 0, none⟩) k' c
theorem Rows2.names {W7 wr w2 : World} {L : List NV} {M : List Int} {k k' g2 cap2 : Nat} {v9 v10 : Value} {u : NV} {o : Obj} (h : Rows2 W7 wr L M k k' v9 v10) (hu : L[k]? = some u)
    (own2 : w2.ownsRow W7.heap.size 30 1 (.slice (some ⟨g2, 0, none⟩) (k + 1) cap2) (k + 1) ((L.take k).map NV.val ++ [u.val])) (grow2 : (wr.alloc o).grownBy w2 v9.ownBlock) : Rows2 W7 w2 L M (k + 1) k' (.slice (some ⟨g2, 0, none⟩) (k + 1) cap2) v10 := by
  refine ⟨by rw [take_step hu, List.map_append]; exact own2, (h.2.1.alloc o).kept grow2 (rows_apart (by decide) (h.2.1.alloc o) (h.1.alloc o)), ?_, ⟨_, _, rfl⟩, h.2.2.2.2⟩
  exact (h.2.2.1.alloc h.2.2.1.size o).grown grow2 (h.2.2.1.alloc h.2.2.1.size o).size (fun g hg => ((h.1.alloc o).lt g hg).1)
theorem Rows2.modes {W7 wr w2 : World} {L : List NV} {M : List Int} {k k' g2 cap2 : Nat} {v9 v10 : Value} {u : Int} {o : Obj} (h : Rows2 W7 wr L M k k' v9 v10) (hu : M[k']? = some u)
    (own2 : w2.ownsRow W7.heap.size 26 1 (.slice (some ⟨g2, 0, none⟩) (k' + 1) cap2) (k' + 1) ((M.take k').map (Value.int .u32) ++ [.int .u32 u])) (grow2 : (wr.alloc o).grownBy w2 v10.ownBlock) : Rows2 W7 w2 L M k (k' + 1) v9 (.slice (some ⟨g2, 0, none⟩) (k' + 1) cap2) := by
  refine ⟨(h.1.alloc o).kept grow2 (rows_apart (by decide) (h.1.alloc o) (h.2.1.alloc o)), by rw [take_step hu, List.map_append]; exact own2, ?_, h.2.2.2.1, ⟨_, _, rfl⟩⟩
  exact (h.2.2.1.alloc h.2.2.1.size o).grown grow2 (h.2.2.1.alloc h.2.2.1.size o).size (fun g hg => ((h.2.1.alloc o).lt g hg).1)
theorem Rows2.start (W7 : World) (L : List NV) (M : List Int) (n : Nat) (hn : n ≤ 1024) :
    Rows2 W7 ((W7.alloc (.cells (madeCells #[.slice none 0 0] (n + 1)) 30)).alloc (.cells (madeCells #[.int .u32 0] (n + 1)) 26)) L M 0 0 (.slice (some ⟨W7.heap.size, 0, none⟩) 0 (n + 1)) (.slice (some ⟨W7.heap.size + 1, 0, none⟩) 0 (n + 1)) := by
  refine ⟨?_, ?_, ((Below.refl _ _).alloc (Nat.le_refl _) _).alloc (by simp) _, ⟨_, _, rfl⟩, ⟨_, _, rfl⟩⟩
  · exact (own_made W7 (.slice none 0 0) 30 n hn _ (Nat.le_refl _)).alloc _
  · have := own_made (W7.alloc (.cells (madeCells #[.slice none 0 0] (n + 1)) 30)) (.int .u32 0) 26 n hn W7.heap.size (by simp)
    simpa using this
end Go.Proofs.Qxb6616724aFmt
