import Derived.Test.Qxb6616476aUv
namespace Go.Proofs.Qxb6616476a
open Go.RowKit Go.Lib

theorem Try.size60 : (Try.prog.info? 60).map (·.size) = some 2 := by kernel_rfl
theorem Try.size93 : (Try.prog.info? 93).map (·.size) = some 4 := by kernel_rfl
theorem Try.size95 : (Try.prog.info? 95).map (·.size) = some 6 := by kernel_rfl
section
variable {ops : Array Oper} {S : World → Prop} {a : Act} {o : Oper}
theorem g_loadT (hg : o.guard = none) (T : TypeId) (d : TypeDesc) (hu : Try.prog.underlying T = some d) (hd : d.isRow = true) (x : Operand) (ho : o.op = .load T x) (b of : Nat) (C : Array Value) (hi : (Try.prog.info? T).map (·.size) = some C.size) (hx : a.eval x = .pointer (some ⟨b, of, none⟩)) (hS : ∀ w, S w → w.rangeAt b of C.toList) : GrowIn Try.prog ops S o (.agg C) a := by
  have h := yieldsIf_load_mid (P := Try.prog) (ops := ops) (S := S) (a := a) (by simp [Region.wanted, hg]) T x ho b of hx C.toList d hS hu hd (by rw [Array.length_toList]; exact hi)
  rw [Array.toArray_toList] at h
  exact Or.inl h
theorem g_field (hg : o.guard = none) (T : TypeId) (i off : Nat) (x : Operand) (ho : o.op = .fieldAddr T x i) (b of : Nat) (hx : a.eval x = .pointer (some ⟨b, of, none⟩))
    (hT : ∀ b of w, (Instr.fieldAt T (.pointer (some ⟨b, of, none⟩)) i).run Try.prog w = .ok (.pointer (some ⟨b, of + off, none⟩)) w) : GrowIn Try.prog ops S o (.pointer (some ⟨b, of + off, none⟩)) a := by
  refine Or.inl (Or.inl ⟨by simp [Region.wanted, hg], fun w hw => ?_⟩)
  unfold execOp
  simp only [ho, hx]
  rw [Sem.run_bind, hT]
  rfl
theorem g_extract (hg : o.guard = none) (x : Operand) (i : Nat) (ho : o.op = .extract x i) (vs : Array Value) (v : Value) (hx : a.eval x = .tuple vs) (hv : vs[i]? = some v) : GrowIn Try.prog ops S o v a := by
  refine Or.inl (Or.inl ⟨by simp [Region.wanted, hg], fun w hw => ?_⟩)
  unfold execOp
  simp only [ho, hx]
  simp [go_sem, Instr.extract, hv]
theorem g_nil (hg : o.guard = none) (x : Operand) (ho : o.op = .nilCheck x) (ad : Addr) (hx : a.eval x = .pointer (some ad)) : GrowIn Try.prog ops S o (.pointer (some ad)) a := by
  refine Or.inl (Or.inl ⟨by simp [Region.wanted, hg], fun w hw => ?_⟩)
  unfold execOp
  simp only [ho, hx]
  rfl
theorem g_mul (hg : o.guard = none) (x y : Operand) (ho : o.op = .binOp .mul 22 x y 22) (c d : Int) (hx : a.eval x = .int .u64 c) (hy : a.eval y = .int .u64 d) (h : Word (c * d)) : GrowIn Try.prog ops S o (.int .u64 (c * d)) a := by
  refine Or.inl (Or.inl ⟨by simp [Region.wanted, hg], fun w hw => ?_⟩)
  have hr : IntKind.u64.wrap (c * d) = c * d := by
    obtain ⟨h1, h2⟩ := h
    rw [IntKind.wrap_u64]
    omega
  unfold execOp
  simp only [ho, hx, hy]
  simp [go_sem, hr]
theorem g_sub (hg : o.guard = none) (x y : Operand) (ho : o.op = .binOp .sub 22 x y 22) (c d : Int) (hx : a.eval x = .int .u64 c) (hy : a.eval y = .int .u64 d) (h : Word (c - d)) : GrowIn Try.prog ops S o (.int .u64 (c - d)) a := by
  refine Or.inl (Or.inl ⟨by simp [Region.wanted, hg], fun w hw => ?_⟩)
  have hr : IntKind.u64.wrap (c - d) = c - d := by
    obtain ⟨h1, h2⟩ := h
    rw [IntKind.wrap_u64]
    omega
  unfold execOp
  simp only [ho, hx, hy]
  simp [go_sem, hr]
theorem g_build93 (hg : o.guard = none) (x y : Operand) (ho : o.op = .build 93 #[(0, .const (.int .u64 0)), (1, .const (.int .u64 0)), (2, x), (3, y)]) (c d : Int) (hc : Word c) (hd : Word d) (hx : a.eval x = .int .u64 c) (hy : a.eval y = .int .u64 d) : GrowIn Try.prog ops S o (.agg (U4 (V2 c d))) a := by
  have e : U4 (V2 c d) = #[.int .u64 0, .int .u64 0, .int .u64 c, .int .u64 d] := by
    rw [U4_eq ⟨by decide, by decide⟩ ⟨by decide, by decide⟩ hc hd]
    unfold V4 V2
    simp
  rw [e]
  refine Or.inl (Or.inl ⟨by simp [Region.wanted, hg], fun w hw => ?_⟩)
  have h0 : a.eval (.const (.int .u64 0)) = .int .u64 0 := rfl
  unfold execOp
  simp only [ho]
  generalize a.eval = ρ at *
  simp [go_sem, hx, hy, h0]
end
theorem fld107_1 (b of : Nat) (w : World) : (Instr.fieldAt 107 (.pointer (some ⟨b, of, none⟩)) 1).run Try.prog w = .ok (.pointer (some ⟨b, of + 2, none⟩)) w := by
  simp [go_sem]
theorem fld107_2 (b of : Nat) (w : World) : (Instr.fieldAt 107 (.pointer (some ⟨b, of, none⟩)) 2).run Try.prog w = .ok (.pointer (some ⟨b, of + 3, none⟩)) w := by
  simp [go_sem]
theorem fld64_5 (b of : Nat) (w : World) : (Instr.fieldAt 64 (.pointer (some ⟨b, of, none⟩)) 5).run Try.prog w = .ok (.pointer (some ⟨b, of + 12, none⟩)) w := by
  simp [go_sem]
theorem fld64_7 (b of : Nat) (w : World) : (Instr.fieldAt 64 (.pointer (some ⟨b, of, none⟩)) 7).run Try.prog w = .ok (.pointer (some ⟨b, of + 18, none⟩)) w := by
  simp [go_sem]
theorem fld64_8 (b of : Nat) (w : World) : (Instr.fieldAt 64 (.pointer (some ⟨b, of, none⟩)) 8).run Try.prog w = .ok (.pointer (some ⟨b, of + 28, none⟩)) w := by
  simp [go_sem]
theorem fld57_0 (b of : Nat) (w : World) : (Instr.fieldAt 57 (.pointer (some ⟨b, of, none⟩)) 0).run Try.prog w = .ok (.pointer (some ⟨b, of + 0, none⟩)) w := by
  simp [go_sem]
theorem fld57_1 (b of : Nat) (w : World) : (Instr.fieldAt 57 (.pointer (some ⟨b, of, none⟩)) 1).run Try.prog w = .ok (.pointer (some ⟨b, of + 1, none⟩)) w := by
  simp [go_sem]
theorem fld60_0 (b of : Nat) (w : World) : (Instr.fieldAt 60 (.pointer (some ⟨b, of, none⟩)) 0).run Try.prog w = .ok (.pointer (some ⟨b, of + 0, none⟩)) w := by
  simp [go_sem]
theorem fld60_1 (b of : Nat) (w : World) : (Instr.fieldAt 60 (.pointer (some ⟨b, of, none⟩)) 1).run Try.prog w = .ok (.pointer (some ⟨b, of + 1, none⟩)) w := by
  simp [go_sem]
theorem fld93_0 (b of : Nat) (w : World) : (Instr.fieldAt 93 (.pointer (some ⟨b, of, none⟩)) 0).run Try.prog w = .ok (.pointer (some ⟨b, of + 0, none⟩)) w := by
  simp [go_sem]
theorem fld93_1 (b of : Nat) (w : World) : (Instr.fieldAt 93 (.pointer (some ⟨b, of, none⟩)) 1).run Try.prog w = .ok (.pointer (some ⟨b, of + 1, none⟩)) w := by
  simp [go_sem]
theorem fld93_2 (b of : Nat) (w : World) : (Instr.fieldAt 93 (.pointer (some ⟨b, of, none⟩)) 2).run Try.prog w = .ok (.pointer (some ⟨b, of + 2, none⟩)) w := by
  simp [go_sem]
theorem fld93_3 (b of : Nat) (w : World) : (Instr.fieldAt 93 (.pointer (some ⟨b, of, none⟩)) 3).run Try.prog w = .ok (.pointer (some ⟨b, of + 3, none⟩)) w := by
  simp [go_sem]
theorem fld95_0 (b of : Nat) (w : World) : (Instr.fieldAt 95 (.pointer (some ⟨b, of, none⟩)) 0).run Try.prog w = .ok (.pointer (some ⟨b, of + 0, none⟩)) w := by
  simp [go_sem]
theorem idx90 (b of k : Nat) (hk : k < 5) (w : World) : (Instr.indexAt 90 (.pointer (some ⟨b, of, none⟩)) (.int .i64 (k : Int))).run Try.prog w = .ok (.pointer (some ⟨b, of + k * 2, none⟩)) w := by
  have h1 : (0 : Int) ≤ k := by omega
  have h2 : (k : Int) < 5 := by omega
  simp [go_sem, h1, h2]
theorem idx58 (b of k : Nat) (hk : k < 5) (w : World) : (Instr.indexAt 58 (.pointer (some ⟨b, of, none⟩)) (.int .i64 (k : Int))).run Try.prog w = .ok (.pointer (some ⟨b, of + k * 2, none⟩)) w := by
  have h1 : (0 : Int) ≤ k := by omega
  have h2 : (k : Int) < 5 := by omega
  simp [go_sem, h1, h2]
theorem idx96 (b of k : Nat) (hk : k < 5) (w : World) : (Instr.indexAt 96 (.pointer (some ⟨b, of, none⟩)) (.int .i64 (k : Int))).run Try.prog w = .ok (.pointer (some ⟨b, of + k * 6, none⟩)) w := by
  have h1 : (0 : Int) ≤ k := by omega
  have h2 : (k : Int) < 5 := by omega
  simp [go_sem, h1, h2]
theorem new60 (d : Option Tmp) (t : TypeId) (p : String) (af : Array Edge) : NewOp Try.prog { dst := d, op := .alloc 60, type := t, pos := p, after := af, guard := none } (.cells #[.int .u64 0, .int .u64 0] 60) := by
  refine ⟨rfl, fun a w => ?_⟩
  simp [execOp, go_sem]
theorem new93 (d : Option Tmp) (t : TypeId) (p : String) (af : Array Edge) : NewOp Try.prog { dst := d, op := .alloc 93, type := t, pos := p, after := af, guard := none } (.cells #[.int .u64 0, .int .u64 0, .int .u64 0, .int .u64 0] 93) := by
  refine ⟨rfl, fun a w => ?_⟩
  simp [execOp, go_sem]
theorem new95 (d : Option Tmp) (t : TypeId) (p : String) (af : Array Edge) : NewOp Try.prog { dst := d, op := .alloc 95, type := t, pos := p, after := af, guard := none } (.cells #[.int .u64 0, .int .u64 0, .int .u64 0, .int .u64 0, .int .u64 0, .int .u64 0] 95) := by
  refine ⟨rfl, fun a w => ?_⟩
  simp [execOp, go_sem]
/-- two boxes are made and filled -/
theorem region_new60 {Q : Exit → Act → World → Prop} {l : List Oper} {id m n : Nat} {a : Act} {wr : World} {oA oB o2 o3 : Oper} (s t : Nat) (y z : Operand) (hst : s ≠ t) (hB : new2B l.toArray m n = true) (hlen : l.drop m = [oA, oB, o2, o3]) (hA : oA.op = .alloc 60 ∧ oA.guard = none ∧ oA.dst = some s) (hB' : oB.op = .alloc 60 ∧ oB.guard = none ∧ oB.dst = some t) (hO : o2.op = .store 60 (.tmp s) y ∧ o2.guard = none ∧ o2.dst = none) (hO' : o3.op = .store 60 (.tmp t) z ∧ o3.guard = none ∧ o3.dst = none) (hy : y ≠ .tmp s ∧ y ≠ .tmp t) (hz : z ≠ .tmp s ∧ z ≠ .tmp t)
    (h : ChainL Try.prog l.toArray (fun w' => Below wr.heap.size wr w') (fun a' => (s < a'.tmps.size ∧ t < a'.tmps.size) ∧ ∃ C D : Array Value, C.size = 2 ∧ D.size = 2 ∧ C.all (·.oneCell') = true ∧ D.all (·.oneCell') = true ∧ a'.eval y = .agg C ∧ a'.eval z = .agg D ∧ ∀ b1 b2 w', Below wr.heap.size wr w' → wr.heap.size ≤ b1 → wr.heap.size ≤ b2 → b1 < w'.heap.size → b2 < w'.heap.size → b1 ≠ b2 → w'.there b1 0 2 → w'.there b2 0 2 → Q .normal ((a'.put (some s) (.pointer (some ⟨b1, 0, none⟩))).put (some t) (.pointer (some ⟨b2, 0, none⟩))) ((w'.setCells b1 0 C.toList).setCells b2 0 D.toList)) (l.take m) a) : (Code.region id l.toArray true).wp Try.prog Q a wr := by
  have e : l.length = m + 4 := by
    have := congrArg List.length hlen
    simp at this
    omega
  have g : ∀ j, l[m + j]? = [oA, oB, o2, o3][j]? := fun j => by rw [← hlen, List.getElem?_drop]
  have isnew : ∀ (o : Oper) (s : Nat), (o.op = .alloc 60 ∧ o.guard = none ∧ o.dst = some s) → NewOp Try.prog o (.cells #[.int .u64 0, .int .u64 0] 60) := fun o s ho => by
    obtain ⟨d, op, t, p, af, gg⟩ := o
    obtain ⟨h1, h2, h3⟩ := ho
    simp only at h1 h2 h3
    subst h1 h2 h3
    exact new60 _ _ _ _
  refine region_new2 (P := Try.prog) (m := m) (n := n) (oA := oA) (oB := oB) (o2 := o2) (o3 := o3) (ob := .cells #[.int .u64 0, .int .u64 0] 60) (S := fun w' => Below wr.heap.size wr w') (N := fun w' b => wr.heap.size ≤ b ∧ b < w'.heap.size ∧ w'.there b 0 2) mixedT hB (by simpa using g 0) (by simpa using g 1) (fun d h1 h2 => ?_) (isnew oA s hA) (isnew oB t hB') (by simpa using g 2) hO.2.1 (by simpa using g 3) hO'.2.1 (fun w w' h1 h2 => h1.trans (h2.mono h1.size)) (fun w w' b h1 h2 => ⟨h1.1, by have := h2.size; omega, there_below h1.2.2 h1.2.1 h2⟩) (fun w b h => h.2.1) (fun w h => ⟨h.size, by simp, there_new w 60 _⟩) ⟨rfl, rfl, rfl, Nat.le_refl _, fun _ _ => rfl⟩ (ChainL.to (by omega) ?_)
  · rw [hA.2.2] at h1; rw [hB'.2.2] at h2; cases h1; cases h2; exact hst rfl
  · have key : ∀ (l' : List Oper) (a : Act), ChainL Try.prog l.toArray (fun w' => Below wr.heap.size wr w') (fun a' => (s < a'.tmps.size ∧ t < a'.tmps.size) ∧ ∃ C D : Array Value, C.size = 2 ∧ D.size = 2 ∧ C.all (·.oneCell') = true ∧ D.all (·.oneCell') = true ∧ a'.eval y = .agg C ∧ a'.eval z = .agg D ∧ ∀ b1 b2 w', Below wr.heap.size wr w' → wr.heap.size ≤ b1 → wr.heap.size ≤ b2 → b1 < w'.heap.size → b2 < w'.heap.size → b1 ≠ b2 → w'.there b1 0 2 → w'.there b2 0 2 → Q .normal ((a'.put (some s) (.pointer (some ⟨b1, 0, none⟩))).put (some t) (.pointer (some ⟨b2, 0, none⟩))) ((w'.setCells b1 0 C.toList).setCells b2 0 D.toList)) l' a → ChainL Try.prog l.toArray (fun w' => Below wr.heap.size wr w') (fun a' => ∀ b1 b2 w', Below wr.heap.size wr w' → (wr.heap.size ≤ b1 ∧ b1 < w'.heap.size ∧ w'.there b1 0 2) → (wr.heap.size ≤ b2 ∧ b2 < w'.heap.size ∧ w'.there b2 0 2) → b1 ≠ b2 → o2.wp Try.prog ((a'.put oA.dst (.pointer (some ⟨b1, 0, none⟩))).put oB.dst (.pointer (some ⟨b2, 0, none⟩))) w' (fun a1 w1 => o3.wp Try.prog a1 w1 (fun a'' w'' => Q .normal a'' w'') Q) Q) l' a := by
      intro l'
      induction l' with
      | nil =>
        rintro a ⟨⟨hs, ht⟩, C, D, c1, d1, c2, d2, hC, hD, hQ⟩
        intro b1 b2 w' hS hN1 hN2 hne
        rw [hA.2.2, hB'.2.2]
        refine wp_store_mid 60 (.tmp s) y hO.1 b1 0 C ?_ ?_ (by rw [c1]; exact hN1.2.2) (by rw [c1]; exact Try.size60) c2 ?_
        · rw [ev_ne _ _ _ _ hst, ev_eq _ _ _ hs]
        · rw [Act.eval_put (fun d hd => by cases hd; exact hy.2), Act.eval_put (fun d hd => by cases hd; exact hy.1)]
          exact hC
        rw [hO.2.2]
        refine wp_store_mid 60 (.tmp t) z hO'.1 b2 0 D ?_ ?_ (by rw [d1]; exact World.there_setCells hN2.2.2 _ _ _) (by rw [d1]; exact Try.size60) d2 ?_
        · show ((a.put (some s) _).put (some t) _).eval _ = _
          rw [ev_eq _ _ _ (by rw [put_size]; exact ht)]
        · show ((a.put (some s) _).put (some t) _).eval _ = _
          rw [Act.eval_put (fun d hd => by cases hd; exact hz.2), Act.eval_put (fun d hd => by cases hd; exact hz.1)]
          exact hD
        rw [hO'.2.2]
        exact hQ b1 b2 w' hS hN1.1 hN2.1 hN1.2.1 hN2.2.1 hne hN1.2.2 hN2.2.2
      | cons o l' ih =>
        rintro a ⟨v, h1, h2⟩
        exact ⟨v, h1, ih _ h2⟩
    exact key _ _ h
end Go.Proofs.Qxb6616476a
