import Derived.Test.Qxb6616476aNum
import Derived.OrdersHeld
namespace Go.Proofs.Qxb6616476a
open Go.RowKit Go.Lib

/-! A region that draws its order: first operations that yield one value each (loads, arithmetic, calls that make memory), beside them allocs, behind them all the rest. One walk in the text's order serves every order. -/
section
variable {P : Program} {ops : Array Oper} {md : Region.Mode} {S : World → Prop} {N : World → Nat → Prop} {Q : Exit → Act → World → Prop} {m p : Nat}

/-- in state a, in every world of S, operation o yields v; a call leaves a world that has only grown -/
def GrowIn (P : Program) (ops : Array Oper) (S : World → Prop) (o : Oper) (v : Value) (a : Act) : Prop :=
  YieldsIf P ops S o v a ∨ (Region.wanted o (yielded ops a.tmps) = true ∧ ∃ f args, (∀ w, (execOp a.eval o).run P w = .ok (.enter f args) w) ∧ ∀ w, S w → Calls P f args w fun e w' => e = .returned v ∧ Below w.heap.size w w')
theorem GrowIn.same {o : Oper} {v : Value} {a a' : Act} (hy : GrowIn P ops S o v a) (he : execOp a'.eval o = execOp a.eval o)
    (hw : Region.wanted o (yielded ops a'.tmps) = Region.wanted o (yielded ops a.tmps)) : GrowIn P ops S o v a' := by
  rcases hy with h | ⟨h1, f, args, h2, h3⟩
  · exact Or.inl (h.of_same he hw)
  · exact Or.inr ⟨by rw [hw]; exact h1, f, args, fun w => by rw [he]; exact h2 w, h3⟩
theorem GrowIn.step {i : Nat} {o : Oper} {v : Value} {a : Act} (hi : ops[i]? = some o) (hy : GrowIn P ops S o v a) {K : Act → World → Prop} {w : World} (hS : S w)
    (h : ∀ w', Below w.heap.size w w' → K (a.put o.dst v) w') : wpOp P ops Q i K a w := by
  rcases hy with hy | ⟨h1, f, args, h2, h3⟩
  · exact hy.wpOp hi hS (h w (Below.refl _ _))
  · unfold wpOp
    simp only [hi, h1, if_true, Oper.wp, h2 w, Oper.upon]
    refine .inl ((h3 w hS).mono ?_)
    rintro e w' ⟨rfl, hb⟩
    exact h w' hb

/-- an alloc, whatever the frame -/
def NewOp (P : Program) (o : Oper) (ob : Obj) : Prop := o.guard = none ∧ ∀ (a : Act) (w : World), (execOp a.eval o).run P w = .ok (.value (.pointer (some ⟨w.heap.size, 0, none⟩))) (w.alloc ob)
theorem NewOp.step {i : Nat} {o : Oper} {ob : Obj} {a : Act} (hi : ops[i]? = some o) (hn : NewOp P o ob) {K : Act → World → Prop} {w : World}
    (h : K (a.put o.dst (.pointer (some ⟨w.heap.size, 0, none⟩))) (w.alloc ob)) : wpOp P ops Q i K a w := by
  unfold wpOp
  have hw : Region.wanted o (yielded ops a.tmps) = true := by simp [Region.wanted, hn.1]
  simp only [hi, hw, if_true, Oper.wp, hn.2 a w, Oper.upon]
  exact .inl h

def upd (β : Nat → Option Nat) (i b : Nat) : Nat → Option Nat := fun k => if k = i then some b else β k
/-- whatever order is picked: the frame alone -/
def GG (P : Program) (md : Region.Mode) (ops : Array Oper) (Q : Exit → Act → World → Prop) (S : World → Prop) (N : World → Nat → Prop) (m p : Nat) : Nat → Array Bool → Act → (Nat → Option Nat) → Prop
  | 0, listed, a, β => (∀ j ∈ Region.ready md ops listed, p ≤ j) ∧ ∀ w, S w → (∀ k b, β k = some b → N w b) → wpAny P md ops Q 0 listed a w
  | fuel + 1, listed, a, β => ((∀ j ∈ Region.ready md ops listed, p ≤ j) ∧ ∀ w, S w → (∀ k b, β k = some b → N w b) → wpAny P md ops Q (fuel + 1) listed a w) ∨
      (Region.ready md ops listed ≠ [] ∧ ∀ i ∈ Region.ready md ops listed, i < p ∧ ∃ o, ops[i]? = some o ∧
        ((i < m ∧ ∃ v, GrowIn P ops S o v a ∧ GG P md ops Q S N m p fuel (listed.setIfInBounds i true) (a.put o.dst v) β) ∨
         (m ≤ i ∧ ∀ b, (∀ k b', β k = some b' → b' ≠ b) → GG P md ops Q S N m p fuel (listed.setIfInBounds i true) (a.put o.dst (.pointer (some ⟨b, 0, none⟩))) (upd β i b))))

theorem GG_sound {ob : Obj} (hSm : ∀ w w', S w → Below w.heap.size w w' → S w') (hNm : ∀ w w' b, N w b → Below w.heap.size w w' → N w' b) (hNl : ∀ w b, N w b → b < w.heap.size) (hN : ∀ w, S w → N (w.alloc ob) w.heap.size)
    (hal : ∀ i o, m ≤ i → i < p → ops[i]? = some o → NewOp P o ob) :
    ∀ (fuel : Nat) (listed : Array Bool) (a : Act) (β : Nat → Option Nat) (w : World), S w → (∀ k b, β k = some b → N w b) → GG P md ops Q S N m p fuel listed a β → wpAny P md ops Q fuel listed a w
  | 0, _, _, _, w, hS, hβ, h => h.2 w hS hβ
  | fuel + 1, listed, a, β, w, hS, hβ, h => by
    rcases h with h | ⟨hne, h⟩
    · exact h.2 w hS hβ
    · refine ⟨fun h0 => absurd h0 hne, fun i hi => ?_⟩
      obtain ⟨hip, o, ho, hk⟩ := h i hi
      rcases hk with ⟨him, v, hy, hG⟩ | ⟨hmi, hG⟩
      · refine hy.step ho hS fun w' hb => ?_
        exact GG_sound hSm hNm hNl hN hal fuel _ _ β w' (hSm w w' hS hb) (fun k b hk => hNm w w' b (hβ k b hk) hb) hG
      · refine (hal i o hmi hip ho).step ho ?_
        have hb : Below w.heap.size w (w.alloc ob) := (Below.refl _ _).alloc (Nat.le_refl _) _
        refine GG_sound hSm hNm hNl hN hal fuel _ _ _ _ (hSm w _ hS hb) ?_ (hG w.heap.size ?_)
        · intro k b hk
          unfold upd at hk
          split at hk
          · cases hk; exact hN w hS
          · exact hNm w _ b (hβ k b hk) hb
        · intro k b' hk e
          have := hNl w b' (hβ k b' hk)
          omega

theorem GG_first {i : Nat} {oi : Oper} {v : Value} (hi : ops[i]? = some oi) (him : i < m) (hsel : ∀ (j : Nat) (o : Oper) cs b, ops[j]? = some o → o.op ≠ .select cs b)
    (hpost : ∀ (listed : Array Bool), listed.getD i true = false → ∀ k ∈ Region.ready md ops listed, k < p) :
    ∀ (fuel : Nat) (listed : Array Bool) (a : Act) (β : Nat → Option Nat),
      (∀ j oj, ops[j]? = some oj → j ≠ i → listed.getD j true = false → (∀ e ∈ oj.after, Region.binds md e = true → e.on ≠ i) → oi.apart ops oj = true) →
      i ∈ Region.ready md ops listed → GrowIn P ops S oi v a →
      GG P md ops Q S N m p fuel (listed.setIfInBounds i true) (a.put oi.dst v) β → GG P md ops Q S N m p (fuel + 1) listed a β := by
  intro fuel
  induction fuel with
  | zero =>
    intro listed a β _ hr hy H
    refine Or.inr ⟨fun h => (by rw [h] at hr; cases hr), fun j hj => ?_⟩
    have hjp := hpost listed (mem_ready.1 hr).1 j hj
    by_cases hji : j = i
    · subst hji; exact ⟨hjp, oi, hi, Or.inl ⟨him, v, hy, H⟩⟩
    · have := H.1 j (ready_mono hj hji)
      omega
  | succ fuel ih =>
    intro listed a β hfree hr hy H
    refine Or.inr ⟨fun h => (by rw [h] at hr; cases hr), fun j hj => ?_⟩
    have hjp := hpost listed (mem_ready.1 hr).1 j hj
    by_cases hji : j = i
    · subst hji; exact ⟨hjp, oi, hi, Or.inl ⟨him, v, hy, H⟩⟩
    · have hjr := ready_mono hj hji
      rcases H with H | H
      · have := H.1 j hjr
        omega
      · obtain ⟨_, oj, hoj, hk⟩ := H.2 j hjr
        obtain ⟨hjun, oj', hoj', hall⟩ := mem_ready.1 hj
        have : oj' = oj := by rw [hoj] at hoj'; exact (Option.some.inj hoj').symm
        subst this
        have hnot : ∀ e ∈ oj'.after, Region.binds md e = true → e.on ≠ i := fun e he hb heq => by
          have h1 := hall e he hb
          have h0 := (mem_ready.1 hr).1
          rw [heq] at h1
          rcases Nat.lt_or_ge i listed.size with h' | h'
          · simp [h'] at h0 h1; rw [h0] at h1; cases h1
          · simp [Array.getElem?_eq_none h'] at h1
        obtain ⟨a1, a2, a3⟩ := Oper.apart_spec (hfree j oj' hoj hji hjun hnot)
        have hfree' : ∀ k ok, ops[k]? = some ok → k ≠ i → (listed.setIfInBounds j true).getD k true = false →
            (∀ e ∈ ok.after, Region.binds md e = true → e.on ≠ i) → oi.apart ops ok = true := fun k ok hk hki hun hno => by
          refine hfree k ok hk hki ?_ hno
          by_cases hjk : j = k
          · subst hjk; exact hjun
          · rw [getD_set_ne true hjk] at hun; exact hun
        have hri := ready_mono hr (Ne.symm hji)
        have keep : ∀ u, GrowIn P ops S oi v (a.put oj'.dst u) := fun u => hy.same (execOp_put oi (fun cs b => hsel i oi cs b hi) a oj'.dst u a3) (wanted_put oi a oj'.dst u a3)
        refine ⟨hjp, oj', hoj, ?_⟩
        rcases hk with ⟨hjm, u, hu, hG⟩ | ⟨hmj, hG⟩
        · refine Or.inl ⟨hjm, u, hu.same (execOp_put oj' (fun cs b => hsel j oj' cs b hoj) a oi.dst v a1).symm (wanted_put oj' a oi.dst v a1).symm, ?_⟩
          refine ih (listed.setIfInBounds j true) _ β hfree' hri (keep u) ?_
          rw [Array.setIfInBounds_comm _ _ hji, ← Act.put_comm a v u a2]
          exact hG
        · refine Or.inr ⟨hmj, fun b hb => ?_⟩
          refine ih (listed.setIfInBounds j true) _ _ hfree' hri (keep _) ?_
          rw [Array.setIfInBounds_comm _ _ hji, ← Act.put_comm a v _ a2]
          exact hG b hb

/-- the operations' values, in the text's order, from number k on -/
def Chain (P : Program) (ops : Array Oper) (S : World → Prop) (R : Act → Prop) : Nat → Nat → Act → Prop
  | 0, _, a => R a
  | n + 1, k, a => ∃ o, ops[k]? = some o ∧ ∃ v, GrowIn P ops S o v a ∧ Chain P ops S R n (k + 1) (a.put o.dst v)
/-- every later operation waits for each of the first p -/
def waits (md : Region.Mode) (ops : Array Oper) (p : Nat) : Bool :=
  (List.range ops.size).all fun k => decide (k < p) || (List.range p).all fun i => ((ops[k]?).map fun o => o.after.any fun e => Region.binds md e && e.on == i).getD false
theorem waits_spec (h : waits md ops p = true) {i : Nat} (hip : i < p) (listed : Array Bool) (hl : listed.getD i true = false) : ∀ k ∈ Region.ready md ops listed, k < p := by
  intro k hk
  obtain ⟨_, o, ho, hall⟩ := mem_ready.1 hk
  unfold waits at h
  rw [List.all_eq_true] at h
  have hks : k < ops.size := (Array.getElem?_eq_some_iff.1 ho).1
  have h1 := h k (by simpa using hks)
  rw [Bool.or_eq_true] at h1
  rcases h1 with h1 | h1
  · simpa using h1
  · rw [List.all_eq_true] at h1
    have h2 := h1 i (by simpa using hip)
    simp only [ho, Option.map_some, Option.getD_some, Array.any_eq_true] at h2
    obtain ⟨x, hx, h3⟩ := h2
    rw [Bool.and_eq_true, beq_iff_eq] at h3
    have h4 := hall o.after[x] (by simp) h3.1
    rw [h3.2] at h4
    rcases Nat.lt_or_ge i listed.size with h' | h'
    · simp [h'] at hl h4; rw [hl] at h4; cases h4
    · simp [Array.getElem?_eq_none h'] at h4

/-- the Bool of the text's order, as far as the first ones go -/
def lexTo (md : Region.Mode) (ops : Array Oper) : Nat → Nat → Array Bool → Bool
  | 0, _, _ => true
  | n + 1, k, listed => (Region.ready md ops listed).contains k && Region.free md ops listed k && lexTo md ops n (k + 1) (listed.setIfInBounds k true)
def listedTo : Nat → Nat → Array Bool → Array Bool
  | 0, _, l => l
  | n + 1, k, l => listedTo n (k + 1) (l.setIfInBounds k true)
theorem GG_lex (hs : Region.noSelect ops = true) (hw : waits md ops p = true) (hmp : m ≤ p) (r : Nat) (β : Nat → Option Nat) :
    ∀ (n k : Nat) (listed : Array Bool) (a : Act), k + n ≤ m → lexTo md ops n k listed = true →
      Chain P ops S (fun a' => GG P md ops Q S N m p r (listedTo n k listed) a' β) n k a → GG P md ops Q S N m p (r + n) listed a β
  | 0, _, _, _, _, _, h => h
  | n + 1, k, listed, a, hk, hB, h => by
    obtain ⟨o, h0, v, hy, hK⟩ := h
    simp only [lexTo, Bool.and_eq_true] at hB
    obtain ⟨⟨hr, hf⟩, hB'⟩ := hB
    exact GG_first h0 (by omega) (Region.noSelect_spec hs) (fun li hli => waits_spec hw (by omega) li hli) (r + n) listed a β (Region.free_spec h0 hf) (by simpa using hr) hy
      (GG_lex hs hw hmp r β n (k + 1) _ _ (by omega) hB' hK)

def wholeB (ops : Array Oper) : Bool := Region.noSelect ops && waits .any ops ops.size && lexTo .any ops ops.size 0 (Array.replicate ops.size false) && (Region.ready .any ops (listedTo ops.size 0 (Array.replicate ops.size false))).isEmpty
/-- every operation yields one value: the region, whatever its order -/
theorem region_all {id : Nat} {a : Act} {w : World} (hm : P.follows .mixedOrders = true) (hB : wholeB ops = true) (hSm : ∀ w w', S w → Below w.heap.size w w' → S w')
    (hS : S { w with drawn := w.drawn + 1 }) (h : Chain P ops S (fun a' => ∀ w', S w' → Q .normal a' w') ops.size 0 a) : (Code.region id ops true).wp P Q a w := by
  simp only [wholeB, Bool.and_eq_true, List.isEmpty_iff] at hB
  obtain ⟨⟨⟨b1, b2⟩, b3⟩, b4⟩ := hB
  refine wp_region_any hm ?_
  refine GG_sound (S := S) (N := fun w b => b < w.heap.size) (ob := .cells #[] 0) (m := ops.size) (p := ops.size) (β := fun _ => none) hSm (fun w w' b h1 h2 => Nat.lt_of_lt_of_le h1 h2.size) (fun _ _ h => h) (fun w _ => by simp) (fun i o h1 h2 => by omega) _ _ _ _ hS (fun _ _ h => by cases h) ?_
  have := GG_lex (P := P) (Q := Q) (S := S) (N := fun w b => b < w.heap.size) (md := .any) b1 b2 (Nat.le_refl _) 0 (fun _ => none) ops.size 0 (Array.replicate ops.size false) a (by omega) b3 ?_
  · simpa using this
  · have key : ∀ n k a, Chain P ops S (fun a' => ∀ w', S w' → Q .normal a' w') n k a → Chain P ops S (fun a' => GG P .any ops Q S (fun w b => b < w.heap.size) ops.size ops.size 0 (listedTo ops.size 0 (Array.replicate ops.size false)) a' fun _ => none) n k a := by
      intro n
      induction n with
      | zero => intro k a h; exact ⟨by rw [b4]; simp, fun w' hw' _ => ⟨b4, h w' hw'⟩⟩
      | succ n ih => intro k a ⟨o, h0, v, hy, hK⟩; exact ⟨o, h0, v, hy, ih _ _ hK⟩
    exact key _ _ _ h

def storeB (ops : Array Oper) (m : Nat) : Bool := decide (ops.size = m + 1) && Region.noSelect ops && waits .any ops m && lexTo .any ops m 0 (Array.replicate ops.size false) && (Region.ready .any ops (listedTo m 0 (Array.replicate ops.size false)) == [m]) && (Region.ready .any ops (listedTo (m + 1) 0 (Array.replicate ops.size false))).isEmpty
theorem listedTo_succ : ∀ (n k : Nat) (l : Array Bool), listedTo (n + 1) k l = (listedTo n k l).setIfInBounds (k + n) true
  | 0, _, _ => rfl
  | n + 1, k, l => by
    rw [listedTo, listedTo_succ n (k + 1) _]
    rw [show k + 1 + n = k + (n + 1) by omega]
    rfl
theorem wpAny_last {i : Nat} {o : Oper} {listed : Array Bool} {a : Act} {w : World} (hr : Region.ready md ops listed = [i]) (hr' : Region.ready md ops (listed.setIfInBounds i true) = []) (ho : ops[i]? = some o) (hg : o.guard = none)
    (h : o.wp P a w (fun a' w' => Q .normal a' w') Q) : wpAny P md ops Q 1 listed a w := by
  refine wpAny_all hr (by simp) fun j hj => ?_
  have : j = i := by simpa using hj
  subst this
  have hw : Region.wanted o (yielded ops a.tmps) = true := by simp [Region.wanted, hg]
  unfold wpOp
  simp only [ho, hw, if_true]
  exact .inl (Oper.wp_mono (fun a' w' h' => ⟨hr', h'⟩) h)
/-- ... and one operation behind them all -/
theorem region_then {id m : Nat} {a : Act} {w : World} {oS : Oper} (hm : P.follows .mixedOrders = true) (hB : storeB ops m = true) (ho : ops[m]? = some oS) (hg : oS.guard = none) (hSm : ∀ w w', S w → Below w.heap.size w w' → S w')
    (hS : S { w with drawn := w.drawn + 1 }) (h : Chain P ops S (fun a' => ∀ w', S w' → oS.wp P a' w' (fun a'' w'' => Q .normal a'' w'') Q) m 0 a) : (Code.region id ops true).wp P Q a w := by
  simp only [storeB, Bool.and_eq_true, List.isEmpty_iff, decide_eq_true_eq, beq_iff_eq] at hB
  obtain ⟨⟨⟨⟨⟨b0, b1⟩, b2⟩, b3⟩, b4⟩, b5⟩ := hB
  refine wp_region_any hm ?_
  refine GG_sound (S := S) (N := fun w b => b < w.heap.size) (ob := .cells #[] 0) (m := m) (p := m) (β := fun _ => none) hSm (fun w w' b h1 h2 => Nat.lt_of_lt_of_le h1 h2.size) (fun _ _ h => h) (fun w _ => by simp) (fun i o h1 h2 => by omega) _ _ _ _ hS (fun _ _ h => by cases h) ?_
  have := GG_lex (P := P) (Q := Q) (S := S) (N := fun w b => b < w.heap.size) (md := .any) (p := m) b1 b2 (Nat.le_refl _) 1 (fun _ => none) m 0 (Array.replicate ops.size false) a (by omega) b3 ?_
  · rw [b0] at this ⊢
    rw [Nat.add_comm m 1]
    rw [Nat.add_comm m 1] at this
    exact this
  · have key : ∀ n k a, Chain P ops S (fun a' => ∀ w', S w' → oS.wp P a' w' (fun a'' w'' => Q .normal a'' w'') Q) n k a → Chain P ops S (fun a' => GG P .any ops Q S (fun w b => b < w.heap.size) m m 1 (listedTo m 0 (Array.replicate ops.size false)) a' fun _ => none) n k a := by
      intro n
      induction n with
      | zero =>
        intro k a h
        refine Or.inl ⟨by rw [b4]; simp, fun w' hw' _ => wpAny_last b4 ?_ ho hg (h w' hw')⟩
        rw [listedTo_succ, Nat.zero_add] at b5
        exact b5
      | succ n ih => intro k a ⟨o, h0, v, hy, hK⟩; exact ⟨o, h0, v, hy, ih _ _ hK⟩
    exact key _ _ _ h

def newB (ops : Array Oper) (m : Nat) : Bool := decide (ops.size = m + 2) && Region.noSelect ops && waits .any ops (m + 1) && lexTo .any ops m 0 (Array.replicate ops.size false) && (Region.ready .any ops (listedTo m 0 (Array.replicate ops.size false)) == [m]) && (Region.ready .any ops (listedTo (m + 1) 0 (Array.replicate ops.size false)) == [m + 1]) && (Region.ready .any ops (listedTo (m + 2) 0 (Array.replicate ops.size false))).isEmpty
/-- ... beside them one alloc, behind them all one operation -/
theorem region_new {id m : Nat} {a : Act} {w : World} {oA oS : Oper} {ob : Obj} (hm : P.follows .mixedOrders = true) (hB : newB ops m = true) (hA : ops[m]? = some oA) (hnew : NewOp P oA ob) (ho : ops[m + 1]? = some oS) (hg : oS.guard = none) (hSm : ∀ w w', S w → Below w.heap.size w w' → S w')
    (hNm : ∀ w w' b, N w b → Below w.heap.size w w' → N w' b) (hNl : ∀ w b, N w b → b < w.heap.size) (hN : ∀ w, S w → N (w.alloc ob) w.heap.size)
    (hS : S { w with drawn := w.drawn + 1 }) (h : Chain P ops S (fun a' => ∀ b w', S w' → N w' b → oS.wp P (a'.put oA.dst (.pointer (some ⟨b, 0, none⟩))) w' (fun a'' w'' => Q .normal a'' w'') Q) m 0 a) : (Code.region id ops true).wp P Q a w := by
  simp only [newB, Bool.and_eq_true, List.isEmpty_iff, decide_eq_true_eq, beq_iff_eq] at hB
  obtain ⟨⟨⟨⟨⟨⟨b0, b1⟩, b2⟩, b3⟩, b4⟩, b5⟩, b6⟩ := hB
  refine wp_region_any hm ?_
  refine GG_sound (S := S) (N := N) (ob := ob) (m := m) (p := m + 1) (β := fun _ => none) hSm hNm hNl hN (fun i o h1 h2 h3 => ?_) _ _ _ _ hS (fun _ _ h => by cases h) ?_
  · have : i = m := by omega
    subst this
    rw [hA] at h3
    cases h3
    exact hnew
  have := GG_lex (P := P) (Q := Q) (S := S) (N := N) (md := .any) (m := m) (p := m + 1) b1 b2 (by omega) 2 (fun _ => none) m 0 (Array.replicate ops.size false) a (by omega) b3 ?_
  · rw [b0] at this ⊢
    rw [Nat.add_comm m 2]
    rw [Nat.add_comm m 2] at this
    exact this
  · have key : ∀ n k a, Chain P ops S (fun a' => ∀ b w', S w' → N w' b → oS.wp P (a'.put oA.dst (.pointer (some ⟨b, 0, none⟩))) w' (fun a'' w'' => Q .normal a'' w'') Q) n k a → Chain P ops S (fun a' => GG P .any ops Q S N m (m + 1) 2 (listedTo m 0 (Array.replicate ops.size false)) a' fun _ => none) n k a := by
      intro n
      induction n with
      | zero =>
        intro k a hh
        refine Or.inr ⟨by rw [b4]; simp, fun i hi => ?_⟩
        rw [b4] at hi
        have : i = m := by simpa using hi
        subst this
        refine ⟨by omega, oA, hA, Or.inr ⟨Nat.le_refl _, fun b _ => ?_⟩⟩
        have e5 := b5
        have e6 := b6
        rw [listedTo_succ, Nat.zero_add] at e5
        rw [listedTo_succ, listedTo_succ, Nat.zero_add, Nat.zero_add] at e6
        refine Or.inl ⟨by rw [e5]; simp, fun w' hw' hβ => wpAny_last e5 e6 ho hg (hh b w' hw' (hβ i b (by simp [upd])))⟩
      | succ n ih => intro k a ⟨o, h0, v, hy, hK⟩; exact ⟨o, h0, v, hy, ih _ _ hK⟩
    exact key _ _ _ h
end
end Go.Proofs.Qxb6616476a
