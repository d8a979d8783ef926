import Derived.Test.Qxb6616476aFlop
namespace Go.Proofs.Qxb6616476a
open Go.RowKit Go.Lib

theorem y_extract {ops : Array Oper} {a : Act} {o : Oper} (hg : o.guard = none) (x : Operand) (i : Nat) (ho : o.op = .extract x i) (vs : Array Value) (v : Value) (hx : a.eval x = .tuple vs) (hv : vs[i]? = some v) : Yields Try.prog ops o v a := by
  refine Or.inl ⟨by simp [Region.wanted, hg], fun w => ?_⟩
  unfold execOp
  simp only [ho, hx]
  simp [go_sem, Instr.extract, hv]
theorem wp_assign {P : Program} {o : Oper} {a : Act} {w : World} {K : Act → World → Prop} {Q : Exit → Act → World → Prop} (x : Operand) (v : Value) (ho : o.op = .assign x) (hx : a.eval x = v) (h : K (a.put o.dst v) w) : o.wp P a w K Q := by
  unfold Oper.wp execOp
  simp only [ho, hx]
  exact h
theorem region_opt93 {Q : Exit → Act → World → Prop} {l : List Oper} {id m : Nat} {a : Act} {wr : World} {oO oA oS oE : Oper} (t dO s dE : Nat) (y : Operand) (hB : optB l.toArray m = true) (hlen : l.drop m = [oO, oA, oS, oE]) (hO : oO.op = .extract (.tmp t) 1 ∧ oO.guard = none ∧ oO.dst = some dO) (hA : oA.op = .alloc 93 ∧ oA.guard = none ∧ oA.dst = some s) (hS : oS.op = .store 93 (.tmp s) y ∧ oS.guard = none ∧ oS.dst = none) (hE : oE.op = .assign (.tmp dO) ∧ oE.guard = none ∧ oE.dst = some dE)
    (hy : y ≠ .tmp s ∧ y ≠ .tmp dO) (hts : t ≠ s ∧ s ≠ dO) (hQ : ∀ d v c a w, Q (.panic c) (a.put d v) w → Q (.panic c) a w)
    (h : ChainL Try.prog l.toArray (fun w' => Below wr.heap.size wr w') (fun a' => (s < a'.tmps.size ∧ dO < a'.tmps.size) ∧ ∃ (vs : Array Value) (v : Value) (C : Array Value), a'.eval (.tmp t) = .tuple vs ∧ vs[1]? = some v ∧ C.size = 4 ∧ C.all (·.oneCell') = true ∧ a'.eval y = .agg C ∧ ∀ b w', Below wr.heap.size wr w' → wr.heap.size ≤ b → b < w'.heap.size → w'.there b 0 4 → Q .normal (((a'.put (some dO) v).put (some s) (.pointer (some ⟨b, 0, none⟩))).put (some dE) v) (w'.setCells b 0 C.toList)) (l.take m) a) : (Code.region id l.toArray true).wp Try.prog Q a wr := by
  have e : l.length = m + 4 := by
    have := congrArg List.length hlen
    simp at this
    omega
  have g : ∀ j, l[m + j]? = [oO, oA, oS, oE][j]? := fun j => by rw [← hlen, List.getElem?_drop]
  have isnew : NewOp Try.prog oA (.cells #[.int .u64 0, .int .u64 0, .int .u64 0, .int .u64 0] 93) := by
    obtain ⟨d, op, t, p, af, gg⟩ := oA
    obtain ⟨h1, h2, h3⟩ := hA
    simp only at h1 h2 h3
    subst h1 h2 h3
    exact new93 _ _ _ _
  refine region_opt (P := Try.prog) (m := m) (oO := oO) (oA := oA) (oS := oS) (oE := oE) (ob := .cells #[.int .u64 0, .int .u64 0, .int .u64 0, .int .u64 0] 93) (S := fun w' => Below wr.heap.size wr w') (N := fun w' b => wr.heap.size ≤ b ∧ b < w'.heap.size ∧ w'.there b 0 4) mixedT hB (by simpa using g 0) (by simpa using g 1) (fun d h1 h2 => ?_) isnew (by simpa using g 2) hS.2.1 (by simpa using g 3) hE.2.1 hQ (fun w w' h1 h2 => h1.trans (h2.mono h1.size)) (fun w w' b h1 h2 => ⟨h1.1, by have := h2.size; omega, there_below h1.2.2 h1.2.1 h2⟩) (fun w b h => h.2.1) (fun w h => ⟨h.size, by simp, there_new w 93 _⟩) ⟨rfl, rfl, rfl, Nat.le_refl _, fun _ _ => rfl⟩ (ChainL.to (by omega) ?_)
  · rw [hO.2.2] at h1; rw [hA.2.2] at h2; cases h1; cases h2; exact hts.2 rfl
  · have key : ∀ (l' : List Oper) (a : Act), ChainL Try.prog l.toArray (fun w' => Below wr.heap.size wr w') (fun a' => (s < a'.tmps.size ∧ dO < a'.tmps.size) ∧ ∃ (vs : Array Value) (v : Value) (C : Array Value), a'.eval (.tmp t) = .tuple vs ∧ vs[1]? = some v ∧ C.size = 4 ∧ C.all (·.oneCell') = true ∧ a'.eval y = .agg C ∧ ∀ b w', Below wr.heap.size wr w' → wr.heap.size ≤ b → b < w'.heap.size → w'.there b 0 4 → Q .normal (((a'.put (some dO) v).put (some s) (.pointer (some ⟨b, 0, none⟩))).put (some dE) v) (w'.setCells b 0 C.toList)) l' a → ChainL Try.prog l.toArray (fun w' => Below wr.heap.size wr w') (fun a' => ∃ v, Yields Try.prog l.toArray oO v a' ∧ (∀ u, Yields Try.prog l.toArray oO v (a'.put oA.dst u)) ∧ ∀ b w', Below wr.heap.size wr w' → (wr.heap.size ≤ b ∧ b < w'.heap.size ∧ w'.there b 0 4) → oS.wp Try.prog ((a'.put oO.dst v).put oA.dst (.pointer (some ⟨b, 0, none⟩))) w' (fun a1 w1 => oE.wp Try.prog a1 w1 (fun a'' w'' => Q .normal a'' w'') Q) Q) l' a := by
      intro l'
      induction l' with
      | nil =>
        rintro a ⟨⟨hs, hd⟩, vs, v, C, hvs, hv, c1, c2, hC, hq⟩
        refine ⟨v, y_extract hO.2.1 (.tmp t) 1 hO.1 vs v hvs hv, fun u => ?_, fun b w' hw' hN => ?_⟩
        · rw [hA.2.2]
          refine y_extract hO.2.1 (.tmp t) 1 hO.1 vs v ?_ hv
          rw [ev_ne _ _ _ _ hts.1]
          exact hvs
        · rw [hO.2.2, hA.2.2]
          refine wp_store_mid 93 (.tmp s) y hS.1 b 0 C ?_ ?_ (by rw [c1]; exact hN.2.2) (by rw [c1]; exact Try.size93) c2 ?_
          · rw [ev_eq _ _ _ (by rw [put_size]; exact hs)]
          · rw [Act.eval_put (fun d hd => by cases hd; exact hy.1), Act.eval_put (fun d hd => by cases hd; exact hy.2)]
            exact hC
          rw [hS.2.2]
          refine wp_assign (.tmp dO) v hE.1 ?_ ?_
          · show ((a.put (some dO) _).put (some s) _).eval _ = _
            rw [ev_ne _ _ _ _ (Ne.symm hts.2), ev_eq _ _ _ hd]
          · rw [hE.2.2]
            exact hq b w' hw' hN.1 hN.2.1 hN.2.2
      | cons o l' ih =>
        rintro a ⟨v, h1, h2⟩
        exact ⟨v, h1, ih _ h2⟩
    exact key _ _ h
theorem region_opt93_0 {Q : Exit → Act → World → Prop} {l : List Oper} {id m : Nat} {a : Act} {wr : World} {oO oS oE : Oper} (t dO s dE : Nat) (y : Operand) (hB : optB0 l.toArray m = true) (hlen : l.drop m = [oO, oS, oE]) (hO : oO.op = .extract (.tmp t) 1 ∧ oO.guard = none ∧ oO.dst = some dO) (hS : oS.op = .store 93 (.tmp s) y ∧ oS.guard = none ∧ oS.dst = none) (hE : oE.op = .assign (.tmp dO) ∧ oE.guard = none ∧ oE.dst = some dE)
    (hy : y ≠ .tmp dO) (hts : s ≠ dO) (hQ : ∀ d v c a w, Q (.panic c) (a.put d v) w → Q (.panic c) a w)
    (h : ChainL Try.prog l.toArray (fun w' => Below wr.heap.size wr w') (fun a' => dO < a'.tmps.size ∧ ∃ (vs : Array Value) (v : Value) (C : Array Value) (b : Nat), a'.eval (.tmp t) = .tuple vs ∧ vs[1]? = some v ∧ C.size = 4 ∧ C.all (·.oneCell') = true ∧ a'.eval y = .agg C ∧ a'.eval (.tmp s) = .pointer (some ⟨b, 0, none⟩) ∧ (∀ w', Below wr.heap.size wr w' → w'.there b 0 4) ∧ ∀ w', Below wr.heap.size wr w' → Q .normal ((a'.put (some dO) v).put (some dE) v) (w'.setCells b 0 C.toList)) (l.take m) a) : (Code.region id l.toArray true).wp Try.prog Q a wr := by
  have e : l.length = m + 3 := by
    have := congrArg List.length hlen
    simp at this
    omega
  have g : ∀ j, l[m + j]? = [oO, oS, oE][j]? := fun j => by rw [← hlen, List.getElem?_drop]
  refine region_opt0 (P := Try.prog) (m := m) (oO := oO) (oS := oS) (oE := oE) (S := fun w' => Below wr.heap.size wr w') mixedT hB (by simpa using g 0) (by simpa using g 1) hS.2.1 (by simpa using g 2) hE.2.1 hQ (fun w w' h1 h2 => h1.trans (h2.mono h1.size)) ⟨rfl, rfl, rfl, Nat.le_refl _, fun _ _ => rfl⟩ (ChainL.to (by omega) ?_)
  have key : ∀ (l' : List Oper) (a : Act), ChainL Try.prog l.toArray (fun w' => Below wr.heap.size wr w') (fun a' => dO < a'.tmps.size ∧ ∃ (vs : Array Value) (v : Value) (C : Array Value) (b : Nat), a'.eval (.tmp t) = .tuple vs ∧ vs[1]? = some v ∧ C.size = 4 ∧ C.all (·.oneCell') = true ∧ a'.eval y = .agg C ∧ a'.eval (.tmp s) = .pointer (some ⟨b, 0, none⟩) ∧ (∀ w', Below wr.heap.size wr w' → w'.there b 0 4) ∧ ∀ w', Below wr.heap.size wr w' → Q .normal ((a'.put (some dO) v).put (some dE) v) (w'.setCells b 0 C.toList)) l' a → ChainL Try.prog l.toArray (fun w' => Below wr.heap.size wr w') (fun a' => ∃ v, Yields Try.prog l.toArray oO v a' ∧ ∀ w', Below wr.heap.size wr w' → oS.wp Try.prog (a'.put oO.dst v) w' (fun a1 w1 => oE.wp Try.prog a1 w1 (fun a'' w'' => Q .normal a'' w'') Q) Q) l' a := by
    intro l'
    induction l' with
    | nil =>
      rintro a ⟨hd, vs, v, C, b, hvs, hv, c1, c2, hC, hp, ht, hq⟩
      refine ⟨v, y_extract hO.2.1 (.tmp t) 1 hO.1 vs v hvs hv, fun w' hw' => ?_⟩
      rw [hO.2.2]
      refine wp_store_mid 93 (.tmp s) y hS.1 b 0 C ?_ ?_ (by rw [c1]; exact ht w' hw') (by rw [c1]; exact Try.size93) c2 ?_
      · rw [ev_ne _ _ _ _ hts]; exact hp
      · rw [Act.eval_put (fun d hd => by cases hd; exact hy)]
        exact hC
      rw [hS.2.2]
      refine wp_assign (.tmp dO) v hE.1 ?_ ?_
      · show (a.put (some dO) _).eval _ = _
        rw [ev_eq _ _ _ hd]
      · rw [hE.2.2]
        exact hq w' hw'
    | cons o l' ih =>
      rintro a ⟨v, h1, h2⟩
      exact ⟨v, h1, ih _ h2⟩
  exact key _ _ h
end Go.Proofs.Qxb6616476a
