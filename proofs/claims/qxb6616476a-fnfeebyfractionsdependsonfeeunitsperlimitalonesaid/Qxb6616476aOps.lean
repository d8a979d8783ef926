import Derived.Test.Qxb6616476aCf
namespace Go.Proofs.Qxb6616476a
open Go.RowKit Go.Lib

theorem mixedT : Try.prog.follows .mixedOrders = true := by kernel_rfl
section
variable {ops : Array Oper} {S : World → Prop} {a : Act} {o : Oper}
theorem g_move (hg : o.guard = none) (x : Operand) (ho : o.op = .move x) (v : Value) (hx : a.eval x = v) : GrowIn Try.prog ops S o v a := by
  refine Or.inl (Or.inl ⟨by simp [Region.wanted, hg], fun w _ => ?_⟩)
  unfold execOp
  simp only [ho, hx]
  rfl
theorem g_assign (hg : o.guard = none) (x : Operand) (ho : o.op = .assign x) (v : Value) (hx : a.eval x = v) : GrowIn Try.prog ops S o v a := by
  refine Or.inl (Or.inl ⟨by simp [Region.wanted, hg], fun w _ => ?_⟩)
  unfold execOp
  simp only [ho, hx]
  rfl
theorem g_load (hg : o.guard = none) (x : Operand) (ho : o.op = .load 22 x) (ad : Addr) (v : Value) (hx : a.eval x = .pointer (some ad)) (hS : ∀ w, S w → w.cell? ad = some v) : GrowIn Try.prog ops S o v a := by
  refine Or.inl (Or.inl ⟨by simp [Region.wanted, hg], fun w hw => ?_⟩)
  have h := hS w hw
  unfold execOp
  simp only [ho, hx]
  simp [go_sem, h]
theorem g_load73 (hg : o.guard = none) (x : Operand) (ho : o.op = .load 73 x) (b of : Nat) (y : Int) (hx : a.eval x = .pointer (some ⟨b, of, none⟩)) (hS : ∀ w, S w → w.rangeAt b of (NA y).toList) : GrowIn Try.prog ops S o (.agg (NA y)) a :=
  Or.inl (yieldsIf_load_mid (by simp [Region.wanted, hg]) 73 x ho b of hx (NA y).toList _ hS Try.underlying73 rfl (NA_info' y))
theorem g_index (hg : o.guard = none) (T : TypeId) (sz : Nat) (x y : Operand) (ho : o.op = .indexAddr T x y) (b of k : Nat) (hx : a.eval x = .pointer (some ⟨b, of, none⟩)) (hy : a.eval y = .int .i64 k)
    (hT : ∀ w, (Instr.indexAt T (.pointer (some ⟨b, of, none⟩)) (.int .i64 (k : Int))).run Try.prog w = .ok (.pointer (some ⟨b, of + k * sz, none⟩)) w) : GrowIn Try.prog ops S o (.pointer (some ⟨b, of + k * sz, none⟩)) a := by
  refine Or.inl (Or.inl ⟨by simp [Region.wanted, hg], fun w hw => ?_⟩)
  unfold execOp
  simp only [ho, hx, hy]
  rw [Sem.run_bind, hT]
  rfl
theorem g_call (hg : o.guard = none) (f : FuncId) (c : Call) (ho : o.op = .call c) (hc : c.callee = .value (.func f)) (args : Array Value) (ha : c.args.map a.eval = args) (hf : ∀ w, (callFunc f args).run Try.prog w = .ok (.enter f args) w) (v : Value) (h : ∀ w, S w → Calls Try.prog f args w fun e w' => e = .returned v ∧ Below w.heap.size w w') : GrowIn Try.prog ops S o v a := by
  refine Or.inr ⟨by simp [Region.wanted, hg], f, args, fun w => ?_, h⟩
  unfold execOp
  simp only [ho]
  simp [go_sem, resolve, hc, ha, hf]
end
theorem idx24 (b of k : Nat) (hk : k < 4) (w : World) : (Instr.indexAt 24 (.pointer (some ⟨b, of, none⟩)) (.int .i64 (k : Int))).run Try.prog w = .ok (.pointer (some ⟨b, of + k * 2, none⟩)) w := by
  have h1 : (0 : Int) ≤ k := by omega
  have h2 : (k : Int) < 4 := by omega
  simp [go_sem, h1, h2]
theorem idx23 (b of k : Nat) (hk : k < 2) (w : World) : (Instr.indexAt 23 (.pointer (some ⟨b, of, none⟩)) (.int .i64 (k : Int))).run Try.prog w = .ok (.pointer (some ⟨b, of + k * 1, none⟩)) w := by
  have h1 : (0 : Int) ≤ k := by omega
  have h2 : (k : Int) < 2 := by omega
  simp [go_sem, h1, h2]
theorem idx25 (b of k : Nat) (hk : k < 5) (w : World) : (Instr.indexAt 25 (.pointer (some ⟨b, of, none⟩)) (.int .i64 (k : Int))).run Try.prog w = .ok (.pointer (some ⟨b, of + k * 1, none⟩)) w := by
  have h1 : (0 : Int) ≤ k := by omega
  have h2 : (k : Int) < 5 := by omega
  simp [go_sem, h1, h2]
theorem idx76 (b of k : Nat) (hk : k < 5) (w : World) : (Instr.indexAt 76 (.pointer (some ⟨b, of, none⟩)) (.int .i64 (k : Int))).run Try.prog w = .ok (.pointer (some ⟨b, of + k * 24, none⟩)) w := by
  have h1 : (0 : Int) ≤ k := by omega
  have h2 : (k : Int) < 5 := by omega
  simp [go_sem, h1, h2]
theorem new73 (d : Option Tmp) (t : TypeId) (p : String) (af : Array Edge) : NewOp Try.prog { dst := d, op := .alloc 73, type := t, pos := p, after := af, guard := none } (.cells #[.int .u32 0, .int .u32 0, .int .u32 0, .int .u32 0, .int .u32 0, .int .u32 0, .int .u32 0, .int .u32 0, .int .u32 0, .int .u32 0, .int .u32 0, .int .u32 0, .int .u32 0, .int .u32 0, .int .u32 0, .int .u32 0, .int .u32 0, .int .u32 0, .int .u32 0, .int .u32 0, .int .u32 0, .int .u32 0, .int .u32 0, .int .u32 0] 73) := by
  refine ⟨rfl, fun a w => ?_⟩
  simp [execOp, go_sem]
/-- the same along a list that is written out -/
def ChainL (P : Program) (ops : Array Oper) (S : World → Prop) (R : Act → Prop) : List Oper → Act → Prop
  | [], a => R a
  | o :: l, a => ∃ v, GrowIn P ops S o v a ∧ ChainL P ops S R l (a.put o.dst v)
theorem ChainL.step {P : Program} {ops : Array Oper} {S : World → Prop} {R : Act → Prop} {o : Oper} {l : List Oper} {a : Act} (v : Value) (h : GrowIn P ops S o v a) (h' : ChainL P ops S R l (a.put o.dst v)) : ChainL P ops S R (o :: l) a := ⟨v, h, h'⟩
theorem ChainL.done {P : Program} {ops : Array Oper} {S : World → Prop} {R : Act → Prop} {a : Act} (h : R a) : ChainL P ops S R [] a := h
theorem ChainL.chain {P : Program} {ops : Array Oper} {S : World → Prop} {R : Act → Prop} : ∀ (l : List Oper) (k : Nat) (a : Act), (∀ j, j < l.length → l[j]? = ops[k + j]?) → ChainL P ops S R l a → Chain P ops S R l.length k a
  | [], _, _, _, h => h
  | o :: l, k, a, hl, h => by
    obtain ⟨v, hy, hK⟩ := h
    refine ⟨o, by simpa using (hl 0 (by simp)).symm, v, hy, ?_⟩
    exact ChainL.chain l (k + 1) _ (fun j hj => by have := hl (j + 1) (by simpa using hj); simpa [Nat.add_assoc, Nat.add_comm 1 j] using this) hK
theorem ChainL.frame {P : Program} {ops : Array Oper} {S : World → Prop} {R : Act → Prop} {l : List Oper} {a : Act} (h : ∀ a0, a0 = a → ChainL P ops S R l a0) : ChainL P ops S R l a := h a rfl
theorem ChainL.to {P : Program} {l : List Oper} {m : Nat} {S : World → Prop} {R : Act → Prop} {a : Act} (hm : m ≤ l.length) (h : ChainL P l.toArray S R (l.take m) a) : Chain P l.toArray S R m 0 a := by
  have := ChainL.chain (ops := l.toArray) (l.take m) 0 a (fun j hj => by
    rw [List.length_take] at hj
    rw [List.getElem?_take_of_lt (by omega)]
    simp) h
  rw [List.length_take, Nat.min_eq_left hm] at this
  exact this
theorem region_newL {P : Program} {S : World → Prop} {N : World → Nat → Prop} {Q : Exit → Act → World → Prop} {l : List Oper} {id m : Nat} {a : Act} {w : World} {oA oS : Oper} {ob : Obj} (hm : P.follows .mixedOrders = true) (hB : newB l.toArray m = true) (hlen : l.drop m = [oA, oS]) (hnew : NewOp P oA ob) (hg : oS.guard = none) (hSm : ∀ w w', S w → Below w.heap.size w w' → S w')
    (hNm : ∀ w w' b, N w b → Below w.heap.size w w' → N w' b) (hNl : ∀ w b, N w b → b < w.heap.size) (hN : ∀ w, S w → N (w.alloc ob) w.heap.size)
    (hS : S { w with drawn := w.drawn + 1 }) (h : ChainL P l.toArray S (fun a' => ∀ b w', S w' → N w' b → oS.wp P (a'.put oA.dst (.pointer (some ⟨b, 0, none⟩))) w' (fun a'' w'' => Q .normal a'' w'') Q) (l.take m) a) : (Code.region id l.toArray true).wp P Q a w := by
  have e : l.length = m + 2 := by
    have := congrArg List.length hlen
    simp at this
    omega
  have g : ∀ j, l[m + j]? = [oA, oS][j]? := fun j => by rw [← hlen, List.getElem?_drop]
  exact region_new hm hB (by simpa using g 0) hnew (by simpa using g 1) hg hSm hNm hNl hN hS (ChainL.to (by omega) h)
theorem region_thenL {P : Program} {S : World → Prop} {Q : Exit → Act → World → Prop} {l : List Oper} {id m : Nat} {a : Act} {w : World} {oS : Oper} (hm : P.follows .mixedOrders = true) (hB : storeB l.toArray m = true) (hlen : l.drop m = [oS]) (hg : oS.guard = none) (hSm : ∀ w w', S w → Below w.heap.size w w' → S w')
    (hS : S { w with drawn := w.drawn + 1 }) (h : ChainL P l.toArray S (fun a' => ∀ w', S w' → oS.wp P a' w' (fun a'' w'' => Q .normal a'' w'') Q) (l.take m) a) : (Code.region id l.toArray true).wp P Q a w := by
  have e : l.length = m + 1 := by
    have := congrArg List.length hlen
    simp at this
    omega
  have g : ∀ j, l[m + j]? = [oS][j]? := fun j => by rw [← hlen, List.getElem?_drop]
  exact region_then hm hB (by simpa using g 0) hg hSm hS (ChainL.to (by omega) h)
theorem region_allL {P : Program} {S : World → Prop} {Q : Exit → Act → World → Prop} {l : List Oper} {id : Nat} {a : Act} {w : World} (hm : P.follows .mixedOrders = true) (hB : wholeB l.toArray = true) (hSm : ∀ w w', S w → Below w.heap.size w w' → S w')
    (hS : S { w with drawn := w.drawn + 1 }) (h : ChainL P l.toArray S (fun a' => ∀ w', S w' → Q .normal a' w') l a) : (Code.region id l.toArray true).wp P Q a w := by
  refine region_all hm hB hSm hS ?_
  have := ChainL.to (P := P) (l := l) (m := l.length) (S := S) (a := a) (R := fun a' => ∀ w', S w' → Q .normal a' w') (Nat.le_refl _) (by rw [List.take_length]; exact h)
  simpa using this
theorem put_size (a : Act) (d : Option Tmp) (v : Value) : (a.put d v).tmps.size = a.tmps.size := by
  cases d <;> simp [Act.put]
theorem ev_eq (a : Act) (d : Nat) (v : Value) (h : d < a.tmps.size) : (a.put (some d) v).eval (.tmp d) = v := by
  simp [Act.put, Act.eval, h]
theorem ev_ne (a : Act) (d t : Nat) (v : Value) (h : t ≠ d) : (a.put (some d) v).eval (.tmp t) = a.eval (.tmp t) := Act.eval_put (fun e he => by
  cases he
  simpa using h)
theorem ev_const (a : Act) (v : Value) : a.eval (.const v) = v := rfl
theorem there_below {w w' : World} {b o n : Nat} {B : Nat} (h : w.there b o n) (hb : b < B) (hw : Below B w w') : w'.there b o n := fun j hj => by rw [hw.cell (p := ⟨b, o + j, none⟩) hb, hw.frozen (p := ⟨b, o + j, none⟩) hb]; exact h j hj
theorem there_new (w : World) (t : TypeId) (cs : Array Value) : (w.alloc (.cells cs t)).there w.heap.size 0 cs.size := (Blk.new w cs t).there
/-- a region that ends by laying a number into a box that it has made -/
theorem region_new73 {Q : Exit → Act → World → Prop} {l : List Oper} {id m : Nat} {a : Act} {wr : World} {oA oS : Oper} (s : Nat) (y : Operand) (hB : newB l.toArray m = true) (hlen : l.drop m = [oA, oS]) (hA : oA.op = .alloc 73 ∧ oA.guard = none ∧ oA.dst = some s) (hO : oS.op = .store 73 (.tmp s) y ∧ oS.guard = none ∧ oS.dst = none) (hy : y ≠ .tmp s)
    (h : ChainL Try.prog l.toArray (fun w' => Below wr.heap.size wr w') (fun a' => s < a'.tmps.size ∧ ∃ z, a'.eval y = .agg (NA z) ∧ ∀ b w', Below wr.heap.size wr w' → wr.heap.size ≤ b → b < w'.heap.size → w'.there b 0 24 → Q .normal (a'.put (some s) (.pointer (some ⟨b, 0, none⟩))) (w'.setCells b 0 (NA z).toList)) (l.take m) a) : (Code.region id l.toArray true).wp Try.prog Q a wr := by
  refine region_newL (P := Try.prog) (m := m) (oA := oA) (oS := oS) (ob := .cells #[.int .u32 0, .int .u32 0, .int .u32 0, .int .u32 0, .int .u32 0, .int .u32 0, .int .u32 0, .int .u32 0, .int .u32 0, .int .u32 0, .int .u32 0, .int .u32 0, .int .u32 0, .int .u32 0, .int .u32 0, .int .u32 0, .int .u32 0, .int .u32 0, .int .u32 0, .int .u32 0, .int .u32 0, .int .u32 0, .int .u32 0, .int .u32 0] 73) (S := fun w' => Below wr.heap.size wr w') (N := fun w' b => wr.heap.size ≤ b ∧ b < w'.heap.size ∧ w'.there b 0 24) mixedT hB hlen ?_ hO.2.1 (fun w w' h1 h2 => h1.trans (h2.mono h1.size)) (fun w w' b h1 h2 => ⟨h1.1, by have := h2.size; omega, there_below h1.2.2 h1.2.1 h2⟩) (fun w b h => h.2.1) (fun w h => ⟨h.size, by simp, there_new w 73 _⟩) ⟨rfl, rfl, rfl, Nat.le_refl _, fun _ _ => rfl⟩ ?_
  · obtain ⟨d, op, t, p, af, g⟩ := oA
    obtain ⟨h1, h2, h3⟩ := hA
    simp only at h1 h2 h3
    subst h1 h2 h3
    exact new73 _ _ _ _
  · have key : ∀ (l' : List Oper) (a : Act), ChainL Try.prog l.toArray (fun w' => Below wr.heap.size wr w') (fun a' => s < a'.tmps.size ∧ ∃ z, a'.eval y = .agg (NA z) ∧ ∀ b w', Below wr.heap.size wr w' → wr.heap.size ≤ b → b < w'.heap.size → w'.there b 0 24 → Q .normal (a'.put (some s) (.pointer (some ⟨b, 0, none⟩))) (w'.setCells b 0 (NA z).toList)) l' a → ChainL Try.prog l.toArray (fun w' => Below wr.heap.size wr w') (fun a' => ∀ b w', Below wr.heap.size wr w' → (wr.heap.size ≤ b ∧ b < w'.heap.size ∧ w'.there b 0 24) → oS.wp Try.prog (a'.put oA.dst (.pointer (some ⟨b, 0, none⟩))) w' (fun a'' w'' => Q .normal a'' w'') Q) l' a := by
      intro l'
      induction l' with
      | nil =>
        rintro a ⟨hs, z, hz, hQ⟩
        intro b w' hS hN
        rw [hA.2.2]
        refine wp_store_mid 73 (.tmp s) y hO.1 b 0 (NA z) (ev_eq _ _ _ hs) ?_ (by rw [NA_size]; exact hN.2.2) (NA_info _) (NA_ones _) ?_
        · rw [Act.eval_put (fun d hd => by cases hd; exact hy)]
          exact hz
        · rw [hO.2.2]
          exact hQ b w' hS hN.1 hN.2.1 hN.2.2
      | cons o l' ih =>
        rintro a ⟨v, h1, h2⟩
        exact ⟨v, h1, ih _ h2⟩
    exact key _ _ h
/-- a region that ends by laying a number into a place that stands -/
theorem region_then73 {Q : Exit → Act → World → Prop} {l : List Oper} {id m : Nat} {a : Act} {wr : World} {oS : Oper} (x y : Operand) (hB : storeB l.toArray m = true) (hlen : l.drop m = [oS]) (hO : oS.op = .store 73 x y ∧ oS.guard = none ∧ oS.dst = none)
    (h : ChainL Try.prog l.toArray (fun w' => Below wr.heap.size wr w') (fun a' => ∃ b o z, a'.eval x = .pointer (some ⟨b, o, none⟩) ∧ a'.eval y = .agg (NA z) ∧ (∀ w', Below wr.heap.size wr w' → w'.there b o 24) ∧ ∀ w', Below wr.heap.size wr w' → Q .normal a' (w'.setCells b o (NA z).toList)) (l.take m) a) : (Code.region id l.toArray true).wp Try.prog Q a wr := by
  refine region_thenL (P := Try.prog) (m := m) (oS := oS) (S := fun w' => Below wr.heap.size wr w') mixedT hB hlen hO.2.1 (fun w w' h1 h2 => h1.trans (h2.mono h1.size)) ⟨rfl, rfl, rfl, Nat.le_refl _, fun _ _ => rfl⟩ ?_
  have key : ∀ (l' : List Oper) (a : Act), ChainL Try.prog l.toArray (fun w' => Below wr.heap.size wr w') (fun a' => ∃ b o z, a'.eval x = .pointer (some ⟨b, o, none⟩) ∧ a'.eval y = .agg (NA z) ∧ (∀ w', Below wr.heap.size wr w' → w'.there b o 24) ∧ ∀ w', Below wr.heap.size wr w' → Q .normal a' (w'.setCells b o (NA z).toList)) l' a → ChainL Try.prog l.toArray (fun w' => Below wr.heap.size wr w') (fun a' => ∀ w', Below wr.heap.size wr w' → oS.wp Try.prog a' w' (fun a'' w'' => Q .normal a'' w'') Q) l' a := by
    intro l'
    induction l' with
    | nil =>
      rintro a ⟨b, o, z, hx, hz, ht, hQ⟩
      intro w' hS
      refine wp_store_mid 73 x y hO.1 b o (NA z) hx hz (by rw [NA_size]; exact ht w' hS) (NA_info _) (NA_ones _) ?_
      rw [hO.2.2]
      exact hQ w' hS
    | cons o l' ih =>
      rintro a ⟨v, h1, h2⟩
      exact ⟨v, h1, ih _ h2⟩
  exact key _ _ h
/-- a region all of whose operations yield -/
theorem region_all73 {Q : Exit → Act → World → Prop} {l : List Oper} {id : Nat} {a : Act} {wr : World} (hB : wholeB l.toArray = true)
    (h : ChainL Try.prog l.toArray (fun w' => Below wr.heap.size wr w') (fun a' => ∀ w', Below wr.heap.size wr w' → Q .normal a' w') l a) : (Code.region id l.toArray true).wp Try.prog Q a wr :=
  region_allL (P := Try.prog) (S := fun w' => Below wr.heap.size wr w') mixedT hB (fun _ _ h1 h2 => h1.trans (h2.mono h1.size)) ⟨rfl, rfl, rfl, Nat.le_refl _, fun _ _ => rfl⟩ h
section
variable {ops : Array Oper} {S : World → Prop} {a : Act} {o : Oper}
theorem wanted_none (hg : o.guard = none) : Region.wanted o (yielded ops a.tmps) = true := by simp [Region.wanted, hg]
theorem wanted_some {g : Nat} {bb b' : Bool} {og : Oper} {s : Nat} (hg : o.guard = some (g, bb)) (ho : ops[g]? = some og) (hd : og.dst = some s) (hs : s < a.tmps.size) (hv : a.eval (.tmp s) = .bool b') : Region.wanted o (yielded ops a.tmps) = (b' == bb) := by
  have e : a.tmps[s]? = some (.bool b') := by
    simp only [Act.eval] at hv
    rw [Array.getElem?_eq_getElem hs]
    simp [hs] at hv
    rw [hv]
  simp [Region.wanted, hg, yielded, ho, hd, e]
theorem h_skip (hw : Region.wanted o (yielded ops a.tmps) = false) : GrowIn Try.prog ops S o undef a := Or.inl (Or.inr ⟨hw, rfl⟩)
theorem h_move (hw : Region.wanted o (yielded ops a.tmps) = true) (x : Operand) (ho : o.op = .move x) (v : Value) (hx : a.eval x = v) : GrowIn Try.prog ops S o v a := by
  refine Or.inl (Or.inl ⟨hw, fun w _ => ?_⟩)
  unfold execOp
  simp only [ho, hx]
  rfl
theorem h_load73 (hw : Region.wanted o (yielded ops a.tmps) = true) (x : Operand) (ho : o.op = .load 73 x) (b of : Nat) (y : Int) (hx : a.eval x = .pointer (some ⟨b, of, none⟩)) (hS : ∀ w, S w → w.rangeAt b of (NA y).toList) : GrowIn Try.prog ops S o (.agg (NA y)) a :=
  Or.inl (yieldsIf_load_mid hw 73 x ho b of hx (NA y).toList _ hS Try.underlying73 rfl (NA_info' y))
theorem h_call (hw : Region.wanted o (yielded ops a.tmps) = true) (f : FuncId) (c : Call) (ho : o.op = .call c) (hc : c.callee = .value (.func f)) (args : Array Value) (ha : c.args.map a.eval = args) (hf : ∀ w, (callFunc f args).run Try.prog w = .ok (.enter f args) w) (v : Value) (h : ∀ w, S w → Calls Try.prog f args w fun e w' => e = .returned v ∧ Below w.heap.size w w') : GrowIn Try.prog ops S o v a := by
  refine Or.inr ⟨hw, f, args, fun w => ?_, h⟩
  unfold execOp
  simp only [ho]
  simp [go_sem, resolve, hc, ha, hf]
theorem h_gtr (hw : Region.wanted o (yielded ops a.tmps) = true) (x : Operand) (ho : o.op = .binOp .gtr 3 x (.const (.int .i64 0)) 3) (c : Int) (hx : a.eval x = .int .i64 c) : GrowIn Try.prog ops S o (.bool (decide (0 < c))) a := by
  refine Or.inl (Or.inl ⟨hw, fun w _ => ?_⟩)
  have hk : a.eval (.const (.int .i64 0)) = .int .i64 0 := rfl
  unfold execOp
  simp only [ho, hx, hk]
  simp [go_sem]
theorem h_lss (hw : Region.wanted o (yielded ops a.tmps) = true) (x : Operand) (ho : o.op = .binOp .lss 3 x (.const (.int .i64 0)) 3) (c : Int) (hx : a.eval x = .int .i64 c) : GrowIn Try.prog ops S o (.bool (decide (c < 0))) a := by
  refine Or.inl (Or.inl ⟨hw, fun w _ => ?_⟩)
  have hk : a.eval (.const (.int .i64 0)) = .int .i64 0 := rfl
  unfold execOp
  simp only [ho, hx, hk]
  simp [go_sem]
theorem h_eql (hw : Region.wanted o (yielded ops a.tmps) = true) (x : Operand) (ho : o.op = .binOp .eql 22 x (.const (.int .u64 0)) 22) (c : Int) (hx : a.eval x = .int .u64 c) (b : Bool) (hb : decide (c = 0) = b) : GrowIn Try.prog ops S o (.bool b) a := by
  refine Or.inl (Or.inl ⟨hw, fun w _ => ?_⟩)
  have hk : a.eval (.const (.int .u64 0)) = .int .u64 0 := rfl
  unfold execOp
  simp only [ho, hx, hk]
  rw [← hb]
  simp [go_sem]
  by_cases h : c = 0 <;> simp [h]
theorem h_dec (hw : Region.wanted o (yielded ops a.tmps) = true) (x : Operand) (ho : o.op = .binOp .sub 22 x (.const (.int .u64 1)) 22) (c : Int) (hx : a.eval x = .int .u64 c) (hc : Word c) (h0 : c ≠ 0) : GrowIn Try.prog ops S o (.int .u64 (c - 1)) a := by
  refine Or.inl (Or.inl ⟨hw, fun w _ => ?_⟩)
  have hk : a.eval (.const (.int .u64 1)) = .int .u64 1 := rfl
  have hr : IntKind.u64.wrap (c - 1) = c - 1 := by
    obtain ⟨h1, h2⟩ := hc
    rw [IntKind.wrap_u64]
    omega
  unfold execOp
  simp only [ho, hx, hk]
  simp [go_sem, hr]
theorem h_pick (hw : Region.wanted o (yielded ops a.tmps) = true) (x y z : Operand) (ho : o.op = .pick x y z) (b : Bool) (v : Value) (hx : a.eval x = .bool b) (hv : a.eval (if b = true then y else z) = v) : GrowIn Try.prog ops S o v a := by
  refine Or.inl (Or.inl ⟨hw, fun w _ => ?_⟩)
  unfold execOp
  simp only [ho, hx]
  cases b <;> simp_all [go_sem]
end
end Go.Proofs.Qxb6616476a
