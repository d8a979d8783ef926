import Derived.Test.Qxb6616476aOps3
namespace Go.Proofs.Qxb6616476a
open Go.RowKit Go.Lib

section
variable {ops : Array Oper} {S : World → Prop} {a : Act} {o : Oper}
theorem y_move (hg : o.guard = none) (x : Operand) (ho : o.op = .move x) (v : Value) (hx : a.eval x = v) : YieldsIf Try.prog ops S o v a := by
  refine Or.inl ⟨by simp [Region.wanted, hg], fun w _ => ?_⟩
  unfold execOp
  simp only [ho, hx]
  rfl
theorem y_load (hg : o.guard = none) (x : Operand) (ho : o.op = .load 22 x) (ad : Addr) (v : Value) (hx : a.eval x = .pointer (some ad)) (hS : ∀ w, S w → w.cell? ad = some v) : YieldsIf Try.prog ops S o v a := by
  refine Or.inl ⟨by simp [Region.wanted, hg], fun w hw => ?_⟩
  have h := hS w hw
  unfold execOp
  simp only [ho, hx]
  simp [go_sem, h]
theorem y_index (hg : o.guard = none) (T : TypeId) (sz : Nat) (x y : Operand) (ho : o.op = .indexAddr T x y) (b of k : Nat) (hx : a.eval x = .pointer (some ⟨b, of, none⟩)) (hy : a.eval y = .int .i64 k)
    (hT : ∀ w, (Instr.indexAt T (.pointer (some ⟨b, of, none⟩)) (.int .i64 (k : Int))).run Try.prog w = .ok (.pointer (some ⟨b, of + k * sz, none⟩)) w) : YieldsIf Try.prog ops S o (.pointer (some ⟨b, of + k * sz, none⟩)) a := by
  refine Or.inl ⟨by simp [Region.wanted, hg], fun w hw => ?_⟩
  unfold execOp
  simp only [ho, hx, hy]
  rw [Sem.run_bind, hT]
  rfl
theorem z_move (hw : Region.wanted o (yielded ops a.tmps) = true) (x : Operand) (ho : o.op = .move x) (v : Value) (hx : a.eval x = v) : YieldsIf Try.prog ops S o v a := by
  refine Or.inl ⟨hw, fun w _ => ?_⟩
  unfold execOp
  simp only [ho, hx]
  rfl
theorem z_pick (hw : Region.wanted o (yielded ops a.tmps) = true) (x y z : Operand) (ho : o.op = .pick x y z) (b : Bool) (v : Value) (hx : a.eval x = .bool b) (hv : a.eval (if b = true then y else z) = v) : YieldsIf Try.prog ops S o v a := by
  refine Or.inl ⟨hw, fun w _ => ?_⟩
  unfold execOp
  simp only [ho, hx]
  cases b <;> simp_all [go_sem]
theorem y_loadT (hg : o.guard = none) (T : TypeId) (d : TypeDesc) (hu : Try.prog.underlying T = some d) (hd : d.isRow = true) (x : Operand) (ho : o.op = .load T x) (b of : Nat) (C : Array Value) (hi : (Try.prog.info? T).map (·.size) = some C.size) (hx : a.eval x = .pointer (some ⟨b, of, none⟩)) (hS : ∀ w, S w → w.rangeAt b of C.toList) : YieldsIf Try.prog ops S o (.agg C) a := by
  have h := yieldsIf_load_mid (P := Try.prog) (ops := ops) (S := S) (a := a) (by simp [Region.wanted, hg]) T x ho b of hx C.toList d hS hu hd (by rw [Array.length_toList]; exact hi)
  rw [Array.toArray_toList] at h
  exact h
theorem y_field (hg : o.guard = none) (T : TypeId) (i off : Nat) (x : Operand) (ho : o.op = .fieldAddr T x i) (b of : Nat) (hx : a.eval x = .pointer (some ⟨b, of, none⟩))
    (hT : ∀ b of w, (Instr.fieldAt T (.pointer (some ⟨b, of, none⟩)) i).run Try.prog w = .ok (.pointer (some ⟨b, of + off, none⟩)) w) : YieldsIf Try.prog ops S o (.pointer (some ⟨b, of + off, none⟩)) a := by
  refine Or.inl ⟨by simp [Region.wanted, hg], fun w hw => ?_⟩
  unfold execOp
  simp only [ho, hx]
  rw [Sem.run_bind, hT]
  rfl
theorem y_nil (hg : o.guard = none) (x : Operand) (ho : o.op = .nilCheck x) (ad : Addr) (hx : a.eval x = .pointer (some ad)) : YieldsIf Try.prog ops S o (.pointer (some ad)) a := by
  refine Or.inl ⟨by simp [Region.wanted, hg], fun w hw => ?_⟩
  unfold execOp
  simp only [ho, hx]
  rfl
theorem z_skip (hw : Region.wanted o (yielded ops a.tmps) = false) : YieldsIf Try.prog ops S o undef a := Or.inr ⟨hw, rfl⟩
/-- the cells of a quotient with its remainder -/
def U6 (x r d : Int) : Array Value := #[.int .u64 (x / 6277101735386680763835789423207666416102355444464034512896 % 18446744073709551616), .int .u64 (x / 340282366920938463463374607431768211456 % 18446744073709551616), .int .u64 (x / 18446744073709551616 % 18446744073709551616), .int .u64 (x % 18446744073709551616), .int .u64 r, .int .u64 d]
theorem U4_def (x : Int) : U4 x = #[.int .u64 (x / 6277101735386680763835789423207666416102355444464034512896 % 18446744073709551616), .int .u64 (x / 340282366920938463463374607431768211456 % 18446744073709551616), .int .u64 (x / 18446744073709551616 % 18446744073709551616), .int .u64 (x % 18446744073709551616)] := rfl
theorem y_build95 (hg : o.guard = none) (x y z : Operand) (ho : o.op = .build 95 #[(0, x), (1, y), (2, z)]) (q r d : Int) (hx : a.eval x = .agg (U4 q)) (hy : a.eval y = .int .u64 r) (hz : a.eval z = .int .u64 d) : YieldsIf Try.prog ops S o (.agg (U6 q r d)) a := by
  refine Or.inl ⟨by simp [Region.wanted, hg], fun w _ => ?_⟩
  rw [U4_def] at hx
  unfold execOp
  simp only [ho]
  generalize a.eval = ρ at *
  simp [go_sem, hx, hy, hz, U6]
end
theorem U6_size (x r d : Int) : (U6 x r d).size = 6 := rfl
theorem U6_ones (x r d : Int) : (U6 x r d).all (·.oneCell') = true := by simp [U6, Value.oneCell']
theorem U6_info (x r d : Int) : (Try.prog.info? 95).map (·.size) = some (U6 x r d).size := by rw [U6_size]; exact Try.size95
theorem U4_size (x : Int) : (U4 x).size = 4 := rfl
theorem U4_ones (x : Int) : (U4 x).all (·.oneCell') = true := by simp [U4, Value.oneCell']
theorem U4_info (x : Int) : (Try.prog.info? 93).map (·.size) = some (U4 x).size := by rw [U4_size]; exact Try.size93
theorem U4_info' (x : Int) : (Try.prog.info? 93).map (·.size) = some (U4 x).toList.length := by rw [Array.length_toList, U4_size]; exact Try.size93
theorem U6_range {w : World} {b o : Nat} {x r d : Int} (h : w.rangeAt b o (U6 x r d).toList) : w.rangeAt b o (U4 x).toList := fun j v hv => by
  refine h j v ?_
  have hj : j < 4 := (List.getElem?_eq_some_iff.1 hv).1
  rcases (by omega : j = 0 ∨ j = 1 ∨ j = 2 ∨ j = 3) with rfl | rfl | rfl | rfl <;> exact hv
theorem U6_agg (x r d : Int) : (.agg (U6 x r d) : Value) = .agg #[.int .u64 (x / 6277101735386680763835789423207666416102355444464034512896 % 18446744073709551616), .int .u64 (x / 340282366920938463463374607431768211456 % 18446744073709551616), .int .u64 (x / 18446744073709551616 % 18446744073709551616), .int .u64 (x % 18446744073709551616), .int .u64 r, .int .u64 d] := rfl
theorem U4_emod (x : Int) : U4 x = U4 (x % 115792089237316195423570985008687907853269984665640564039457584007913129639936) := by
  unfold U4
  rw [show x % 115792089237316195423570985008687907853269984665640564039457584007913129639936 / 6277101735386680763835789423207666416102355444464034512896 % 18446744073709551616 = x / 6277101735386680763835789423207666416102355444464034512896 % 18446744073709551616 by omega,
    show x % 115792089237316195423570985008687907853269984665640564039457584007913129639936 / 340282366920938463463374607431768211456 % 18446744073709551616 = x / 340282366920938463463374607431768211456 % 18446744073709551616 by omega,
    show x % 115792089237316195423570985008687907853269984665640564039457584007913129639936 / 18446744073709551616 % 18446744073709551616 = x / 18446744073709551616 % 18446744073709551616 by omega,
    show x % 115792089237316195423570985008687907853269984665640564039457584007913129639936 % 18446744073709551616 = x % 18446744073709551616 by omega]

/-! a region without calls: all yield, a store, an assign -/
def ChainY (P : Program) (ops : Array Oper) (S : World → Prop) (R : Act → Prop) : List Oper → Act → Prop
  | [], a => R a
  | o :: l, a => ∃ v, YieldsIf P ops S o v a ∧ ChainY P ops S R l (a.put o.dst v)
theorem ChainY.step {P : Program} {ops : Array Oper} {S : World → Prop} {R : Act → Prop} {o : Oper} {l : List Oper} {a : Act} (v : Value) (h : YieldsIf P ops S o v a) (h' : ChainY P ops S R l (a.put o.dst v)) : ChainY P ops S R (o :: l) a := ⟨v, h, h'⟩
theorem ChainY.done {P : Program} {ops : Array Oper} {S : World → Prop} {R : Act → Prop} {a : Act} (h : R a) : ChainY P ops S R [] a := h
theorem ChainY.frame {P : Program} {ops : Array Oper} {S : World → Prop} {R : Act → Prop} {l : List Oper} {a : Act} (h : ∀ a0, a0 = a → ChainY P ops S R l a0) : ChainY P ops S R l a := h a rfl
theorem held_lex {P : Program} {ops : Array Oper} {Q : Exit → Act → World → Prop} {S : World → Prop} (hs : Region.noSelect ops = true) (hQ : ∀ d v c a w, Q (.panic c) (a.put d v) w → Q (.panic c) a w) (r : Nat) (w : World) (hS : S w) :
    ∀ (l : List Oper) (k : Nat) (listed : Array Bool) (a : Act), (∀ j, j < l.length → l[j]? = ops[k + j]?) → lexTo .any ops l.length k listed = true →
      ChainY P ops S (fun a' => wpAnyH P .any ops Q S r (listedTo l.length k listed) a' w) l a → wpAnyH P .any ops Q S (r + l.length) listed a w
  | [], _, _, _, _, _, h => h
  | o :: l, k, listed, a, hl, hB, h => by
    have h0 : ops[k]? = some o := by simpa using (hl 0 (by simp)).symm
    simp only [List.length_cons, lexTo, Bool.and_eq_true] at hB
    obtain ⟨⟨hr, hf⟩, hB'⟩ := hB
    obtain ⟨v, hy, hK⟩ := h
    exact wpAnyH_take h0 hs hf hr (fun c a w => hQ _ _ c a w) hy hS (held_lex hs hQ r w hS l (k + 1) _ _ (fun j hj => by have := hl (j + 1) (by simpa using hj); simpa [Nat.add_assoc, Nat.add_comm 1 j] using this) hB' hK)
def yB (ops : Array Oper) (m : Nat) : Bool := decide (ops.size = m + 2) && Region.noSelect ops && lexTo .any ops m 0 (Array.replicate ops.size false) && tailB ops m (Lm ops m)
theorem region_y {Q : Exit → Act → World → Prop} {S : World → Prop} {l : List Oper} {id m : Nat} {a : Act} {wr : World} {oS oE : Oper} (T : TypeId) (x y z : Operand) (hB : yB l.toArray m = true) (hlen : l.drop m = [oS, oE]) (hS' : oS.op = .store T x y ∧ oS.guard = none ∧ oS.dst = none) (hE : oE.op = .assign z ∧ oE.guard = none)
    (hQ : ∀ d v c a w, Q (.panic c) (a.put d v) w → Q (.panic c) a w) (hS : S (wr.drewN 1))
    (h : ChainY Try.prog l.toArray S (fun a' => ∃ (b o : Nat) (C : Array Value) (v : Value), a'.eval x = .pointer (some ⟨b, o, none⟩) ∧ a'.eval y = .agg C ∧ (Try.prog.info? T).map (·.size) = some C.size ∧ C.all (·.oneCell') = true ∧ a'.eval z = v ∧ (wr.drewN 1).there b o C.size ∧ S ((wr.drewN 1).setCells b o C.toList) ∧ Q .normal (a'.put oE.dst v) ((wr.drewN 1).setCells b o C.toList)) (l.take m) a) : (Code.region id l.toArray true).wp Try.prog Q a wr := by
  have e : l.length = m + 2 := by
    have := congrArg List.length hlen
    simp at this
    omega
  have g : ∀ j, l[m + j]? = [oS, oE][j]? := fun j => by rw [← hlen, List.getElem?_drop]
  have g0 : l.toArray[m]? = some oS := by simpa using g 0
  have g1 : l.toArray[m + 1]? = some oE := by simpa using g 1
  simp only [yB, Bool.and_eq_true, decide_eq_true_eq] at hB
  obtain ⟨⟨⟨b0, b1⟩, b2⟩, b3⟩ := hB
  simp only [tailB, Bool.and_eq_true, List.isEmpty_iff, beq_iff_eq] at b3
  refine wp_region_held (S := S) mixedT ?_
  have hl : (l.take m).length = m := by rw [List.length_take]; omega
  have := held_lex (P := Try.prog) (Q := Q) b1 hQ 2 (wr.drewN 1) hS (l.take m) 0 (Array.replicate l.toArray.size false) a (fun j hj => by
    rw [hl] at hj
    rw [List.getElem?_take_of_lt hj]
    simp) (by rw [hl]; exact b2) ?_
  · rw [hl] at this
    rw [b0] at this ⊢
    rw [Nat.add_comm m 2]
    rw [Nat.add_comm m 2] at this
    exact this
  · rw [hl]
    have key : ∀ (l' : List Oper) (a : Act), ChainY Try.prog l.toArray S (fun a' => ∃ (b o : Nat) (C : Array Value) (v : Value), a'.eval x = .pointer (some ⟨b, o, none⟩) ∧ a'.eval y = .agg C ∧ (Try.prog.info? T).map (·.size) = some C.size ∧ C.all (·.oneCell') = true ∧ a'.eval z = v ∧ (wr.drewN 1).there b o C.size ∧ S ((wr.drewN 1).setCells b o C.toList) ∧ Q .normal (a'.put oE.dst v) ((wr.drewN 1).setCells b o C.toList)) l' a → ChainY Try.prog l.toArray S (fun a' => wpAnyH Try.prog .any l.toArray Q S 2 (listedTo m 0 (Array.replicate l.toArray.size false)) a' (wr.drewN 1)) l' a := by
      intro l'
      induction l' with
      | nil =>
        rintro a ⟨b, o, C, v, hx, hy, hi, h1, hz, ht, hS2, hq⟩
        have w1 : ∀ (o' : Oper) (a' : Act), o'.guard = none → Region.wanted o' (yielded l.toArray a'.tmps) = true := fun o' a' hg => by simp [Region.wanted, hg]
        refine wpAnyH_all b3.1.1 (by simp) fun i hi' => ?_
        have : i = m := by simpa using hi'
        subst this
        unfold wpOp
        simp only [g0, w1 oS _ hS'.2.1, if_true]
        refine .inl (wp_store_mid T x y hS'.1 b o C hx hy ht hi h1 ⟨hS2, ?_⟩)
        rw [hS'.2.2]
        refine wpAnyH_all b3.1.2 (by simp) fun i' hi'' => ?_
        have : i' = i + 1 := by simpa using hi''
        subst this
        unfold wpOp
        simp only [g1, w1 oE _ hE.2, if_true]
        exact .inl (wp_assign z v hE.1 hz ⟨hS2, b3.2, hq⟩)
      | cons o l' ih =>
        rintro a ⟨v, h1, h2⟩
        exact ⟨v, h1, ih _ h2⟩
    exact key _ _ h
end Go.Proofs.Qxb6616476a
