import Derived.Test.Qxb6616476aFsum
namespace Go.Proofs.Qxb6616476a
open Go.RowKit Go.Lib

/-! As Float, where some operations that look at no memory may come up behind the store. -/
section
variable {P : Program} {ops : Array Oper} {md : Region.Mode} {S : World → Prop} {N : World → Nat → Prop} {Q : Exit → Act → World → Prop} {m q p : Nat}
def GO (P : Program) (md : Region.Mode) (ops : Array Oper) (Q : Exit → Act → World → Prop) (S : World → Prop) (N : World → Nat → Prop) (m q p : Nat) : Nat → Array Bool → Act → (Nat → Option Nat) → Prop
  | 0, _, _, _ => False
  | fuel + 1, listed, a, β => ((∀ j ∈ Region.ready md ops listed, p ≤ j ∨ (m ≤ j ∧ j < q)) ∧ (∀ w, S w → (∀ k b, β k = some b → N w b) → wpAny P md ops Q (fuel + 1) listed a w) ∧
        ∀ j ∈ Region.ready md ops listed, m ≤ j → j < q → ∃ o, ops[j]? = some o ∧ ∃ v, GrowIn P ops S o v a ∧ GO P md ops Q S N m q p fuel (listed.setIfInBounds j true) (a.put o.dst v) β) ∨
      (Region.ready md ops listed ≠ [] ∧ ∀ i ∈ Region.ready md ops listed, i < p ∧ ∃ o, ops[i]? = some o ∧
        ((i < q ∧ ∃ v, GrowIn P ops S o v a ∧ GO P md ops Q S N m q p fuel (listed.setIfInBounds i true) (a.put o.dst v) β) ∨
         (q ≤ i ∧ ∀ b, (∀ k b', β k = some b' → b' ≠ b) → GO P md ops Q S N m q p fuel (listed.setIfInBounds i true) (a.put o.dst (.pointer (some ⟨b, 0, none⟩))) (upd β i b))))

theorem GO_sound {ob : Obj} (hSm : ∀ w w', S w → Below w.heap.size w w' → S w') (hNm : ∀ w w' b, N w b → Below w.heap.size w w' → N w' b) (hNl : ∀ w b, N w b → b < w.heap.size) (hN : ∀ w, S w → N (w.alloc ob) w.heap.size)
    (hal : ∀ i o, q ≤ i → i < p → ops[i]? = some o → NewOp P o ob) :
    ∀ (fuel : Nat) (listed : Array Bool) (a : Act) (β : Nat → Option Nat) (w : World), S w → (∀ k b, β k = some b → N w b) → GO P md ops Q S N m q p fuel listed a β → wpAny P md ops Q fuel listed a w
  | 0, _, _, _, _, _, _, h => h.elim
  | fuel + 1, listed, a, β, w, hS, hβ, h => by
    rcases h with h | ⟨hne, h⟩
    · exact h.2.1 w hS hβ
    · refine ⟨fun h0 => absurd h0 hne, fun i hi => ?_⟩
      obtain ⟨hip, o, ho, hk⟩ := h i hi
      rcases hk with ⟨him, v, hy, hG⟩ | ⟨hmi, hG⟩
      · refine hy.step ho hS fun w' hb => ?_
        exact GO_sound hSm hNm hNl hN hal fuel _ _ β w' (hSm w w' hS hb) (fun k b hk => hNm w w' b (hβ k b hk) hb) hG
      · refine (hal i o hmi hip ho).step ho ?_
        have hb : Below w.heap.size w (w.alloc ob) := (Below.refl _ _).alloc (Nat.le_refl _) _
        refine GO_sound hSm hNm hNl hN hal fuel _ _ _ _ (hSm w _ hS hb) ?_ (hG w.heap.size ?_)
        · intro k b hk
          unfold upd at hk
          split at hk
          · cases hk; exact hN w hS
          · exact hNm w _ b (hβ k b hk) hb
        · intro k b' hk e
          have := hNl w b' (hβ k b' hk)
          omega

theorem GO_first {i : Nat} {oi : Oper} {v : Value} (hi : ops[i]? = some oi) (him : i < m) (hmq : m ≤ q) (hsel : ∀ (j : Nat) (o : Oper) cs b, ops[j]? = some o → o.op ≠ .select cs b)
    (hpost : ∀ (listed : Array Bool), listed.getD i true = false → ∀ k ∈ Region.ready md ops listed, k < p) :
    ∀ (fuel : Nat) (listed : Array Bool) (a : Act) (β : Nat → Option Nat),
      (∀ j oj, ops[j]? = some oj → j ≠ i → listed.getD j true = false → (∀ e ∈ oj.after, Region.binds md e = true → e.on ≠ i) → oi.apart ops oj = true) →
      i ∈ Region.ready md ops listed → GrowIn P ops S oi v a →
      GO P md ops Q S N m q p fuel (listed.setIfInBounds i true) (a.put oi.dst v) β → GO P md ops Q S N m q p (fuel + 1) listed a β := by
  intro fuel
  induction fuel with
  | zero =>
    intro listed a β _ _ _ H
    exact H.elim
  | succ fuel ih =>
    intro listed a β hfree hr hy H
    refine Or.inr ⟨fun h => (by rw [h] at hr; cases hr), fun j hj => ?_⟩
    have hjp := hpost listed (mem_ready.1 hr).1 j hj
    by_cases hji : j = i
    · subst hji; exact ⟨hjp, oi, hi, Or.inl ⟨by omega, v, hy, H⟩⟩
    · have hjr := ready_mono hj hji
      have H' : ∃ oj, ops[j]? = some oj ∧ ((j < q ∧ ∃ u, GrowIn P ops S oj u (a.put oi.dst v) ∧ GO P md ops Q S N m q p fuel ((listed.setIfInBounds i true).setIfInBounds j true) ((a.put oi.dst v).put oj.dst u) β) ∨
         (q ≤ j ∧ ∀ b, (∀ k b', β k = some b' → b' ≠ b) → GO P md ops Q S N m q p fuel ((listed.setIfInBounds i true).setIfInBounds j true) ((a.put oi.dst v).put oj.dst (.pointer (some ⟨b, 0, none⟩))) (upd β j b))) := by
        rcases H with H | H
        · rcases H.1 j hjr with h | ⟨h1, h2⟩
          · omega
          · obtain ⟨oj, hoj, u, hu⟩ := H.2.2 j hjr h1 h2
            exact ⟨oj, hoj, Or.inl ⟨h2, u, hu⟩⟩
        · obtain ⟨_, oj, hoj, hk⟩ := H.2 j hjr
          exact ⟨oj, hoj, hk⟩
      · obtain ⟨oj, hoj, hk⟩ := H'
        obtain ⟨hjun, oj', hoj', hall⟩ := mem_ready.1 hj
        have : oj' = oj := by rw [hoj] at hoj'; exact (Option.some.inj hoj').symm
        subst this
        have hnot : ∀ e ∈ oj'.after, Region.binds md e = true → e.on ≠ i := fun e he hb heq => by
          have h1 := hall e he hb
          have h0 := (mem_ready.1 hr).1
          rw [heq] at h1
          rcases Nat.lt_or_ge i listed.size with h' | h'
          · simp [h'] at h0 h1; rw [h0] at h1; cases h1
          · simp [Array.getElem?_eq_none h'] at h1
        obtain ⟨a1, a2, a3⟩ := Oper.apart_spec (hfree j oj' hoj hji hjun hnot)
        have hfree' : ∀ k ok, ops[k]? = some ok → k ≠ i → (listed.setIfInBounds j true).getD k true = false →
            (∀ e ∈ ok.after, Region.binds md e = true → e.on ≠ i) → oi.apart ops ok = true := fun k ok hk hki hun hno => by
          refine hfree k ok hk hki ?_ hno
          by_cases hjk : j = k
          · subst hjk; exact hjun
          · rw [getD_set_ne true hjk] at hun; exact hun
        have hri := ready_mono hr (Ne.symm hji)
        have keep : ∀ u, GrowIn P ops S oi v (a.put oj'.dst u) := fun u => hy.same (execOp_put oi (fun cs b => hsel i oi cs b hi) a oj'.dst u a3) (wanted_put oi a oj'.dst u a3)
        refine ⟨hjp, oj', hoj, ?_⟩
        rcases hk with ⟨hjm, u, hu, hG⟩ | ⟨hmj, hG⟩
        · refine Or.inl ⟨hjm, u, hu.same (execOp_put oj' (fun cs b => hsel j oj' cs b hoj) a oi.dst v a1).symm (wanted_put oj' a oi.dst v a1).symm, ?_⟩
          refine ih (listed.setIfInBounds j true) _ β hfree' hri (keep u) ?_
          rw [Array.setIfInBounds_comm _ _ hji, ← Act.put_comm a v u a2]
          exact hG
        · refine Or.inr ⟨hmj, fun b hb => ?_⟩
          refine ih (listed.setIfInBounds j true) _ _ hfree' hri (keep _) ?_
          rw [Array.setIfInBounds_comm _ _ hji, ← Act.put_comm a v _ a2]
          exact hG b hb

theorem GO_lex (hs : Region.noSelect ops = true) (hw : ∀ i, i < m → ∀ listed : Array Bool, listed.getD i true = false → ∀ k ∈ Region.ready md ops listed, k < p) (hmq : m ≤ q) (r : Nat) (β : Nat → Option Nat) :
    ∀ (n k : Nat) (listed : Array Bool) (a : Act), k + n ≤ m → lexTo md ops n k listed = true →
      Chain P ops S (fun a' => GO P md ops Q S N m q p r (listedTo n k listed) a' β) n k a → GO P md ops Q S N m q p (r + n) listed a β
  | 0, _, _, _, _, _, h => h
  | n + 1, k, listed, a, hk, hB, h => by
    obtain ⟨o, h0, v, hy, hK⟩ := h
    simp only [lexTo, Bool.and_eq_true] at hB
    obtain ⟨⟨hr, hf⟩, hB'⟩ := hB
    exact GO_first h0 (by omega) hmq (Region.noSelect_spec hs) (fun li hli => hw k (by omega) li hli) (r + n) listed a β (Region.free_spec h0 hf) (by simpa using hr) hy
      (GO_lex hs hw hmq r β n (k + 1) _ _ (by omega) hB' hK)


/-- every operation from p on waits for each of the first m -/
def waitsM (md : Region.Mode) (ops : Array Oper) (m p : Nat) : Bool :=
  (List.range ops.size).all fun k => decide (k < p) || (List.range m).all fun i => ((ops[k]?).map fun o => o.after.any fun e => Region.binds md e && e.on == i).getD false
theorem waitsM_spec (h : waitsM md ops m p = true) {i : Nat} (him : i < m) (listed : Array Bool) (hl : listed.getD i true = false) : ∀ k ∈ Region.ready md ops listed, k < p := by
  intro k hk
  obtain ⟨_, o, ho, hall⟩ := mem_ready.1 hk
  unfold waitsM at h
  rw [List.all_eq_true] at h
  have hks : k < ops.size := (Array.getElem?_eq_some_iff.1 ho).1
  have h1 := h k (by simpa using hks)
  rw [Bool.or_eq_true] at h1
  rcases h1 with h1 | h1
  · simpa using h1
  · rw [List.all_eq_true] at h1
    have h2 := h1 i (by simpa using him)
    simp only [ho, Option.map_some, Option.getD_some, Array.any_eq_true] at h2
    obtain ⟨x, hx, h3⟩ := h2
    rw [Bool.and_eq_true, beq_iff_eq] at h3
    have h4 := hall o.after[x] (by simp) h3.1
    rw [h3.2] at h4
    rcases Nat.lt_or_ge i listed.size with h' | h'
    · simp [h'] at hl h4; rw [hl] at h4; cases h4
    · simp [Array.getElem?_eq_none h'] at h4

/-- store, assign -/
def tailB (ops : Array Oper) (k : Nat) (L : Array Bool) : Bool := (Region.ready .any ops L == [k]) && (Region.ready .any ops (L.setIfInBounds k true) == [k + 1]) && (Region.ready .any ops ((L.setIfInBounds k true).setIfInBounds (k + 1) true)).isEmpty
def Lm (ops : Array Oper) (m : Nat) : Array Bool := listedTo m 0 (Array.replicate ops.size false)
/-- the shape: m that yield, one that may come late, an alloc, a store, an assign -/
def optB (ops : Array Oper) (m : Nat) : Bool := decide (ops.size = m + 4) && Region.noSelect ops && waitsM .any ops m (m + 2) && lexTo .any ops m 0 (Array.replicate ops.size false)
  && (Region.ready .any ops (Lm ops m) == [m, m + 1]) && (Region.ready .any ops ((Lm ops m).setIfInBounds m true) == [m + 1]) && (Region.ready .any ops ((Lm ops m).setIfInBounds (m + 1) true) == [m, m + 2])
  && Region.free .any ops ((Lm ops m).setIfInBounds (m + 1) true) m && tailB ops (m + 2) (((Lm ops m).setIfInBounds m true).setIfInBounds (m + 1) true)
theorem wpAny_tail {k : Nat} {o o' : Oper} {L : Array Bool} {a : Act} {w : World} (hB : tailB ops k L = true) (ho : ops[k]? = some o) (hg : o.guard = none) (ho' : ops[k + 1]? = some o') (hg' : o'.guard = none)
    (h : o.wp P a w (fun a' w' => o'.wp P a' w' (fun a'' w'' => Q .normal a'' w'') Q) Q) : wpAny P .any ops Q 2 L a w := by
  simp only [tailB, Bool.and_eq_true, List.isEmpty_iff, beq_iff_eq] at hB
  exact wpAny_two hB.1.1 hB.1.2 hB.2 ho hg ho' hg' h
theorem region_opt {id m : Nat} {a : Act} {w : World} {oO oA oS oE : Oper} {ob : Obj} (hm : P.follows .mixedOrders = true) (hB : optB ops m = true) (h0 : ops[m]? = some oO) (hA : ops[m + 1]? = some oA) (hap : ∀ d, oO.dst = some d → oA.dst ≠ some d) (hnew : NewOp P oA ob) (h2 : ops[m + 2]? = some oS) (g2 : oS.guard = none) (h3 : ops[m + 3]? = some oE) (g3 : oE.guard = none)
    (hQ : ∀ d v c a w, Q (.panic c) (a.put d v) w → Q (.panic c) a w) (hSm : ∀ w w', S w → Below w.heap.size w w' → S w')
    (hNm : ∀ w w' b, N w b → Below w.heap.size w w' → N w' b) (hNl : ∀ w b, N w b → b < w.heap.size) (hN : ∀ w, S w → N (w.alloc ob) w.heap.size)
    (hS : S { w with drawn := w.drawn + 1 }) (h : Chain P ops S (fun a' => ∃ v, Yields P ops oO v a' ∧ (∀ u, Yields P ops oO v (a'.put oA.dst u)) ∧ ∀ b w', S w' → N w' b → oS.wp P ((a'.put oO.dst v).put oA.dst (.pointer (some ⟨b, 0, none⟩))) w' (fun a1 w1 => oE.wp P a1 w1 (fun a'' w'' => Q .normal a'' w'') Q) Q) m 0 a) : (Code.region id ops true).wp P Q a w := by
  simp only [optB, Bool.and_eq_true, decide_eq_true_eq, beq_iff_eq] at hB
  obtain ⟨⟨⟨⟨⟨⟨⟨⟨b0, b1⟩, b2⟩, b3⟩, b4⟩, b5⟩, b6⟩, b7⟩, b8⟩ := hB
  have b8' := b8
  simp only [tailB, Bool.and_eq_true, List.isEmpty_iff, beq_iff_eq] at b8'
  refine wp_region_any hm ?_
  refine GO_sound (S := S) (N := N) (ob := ob) (m := m) (q := m + 1) (p := m + 2) (β := fun _ => none) hSm hNm hNl hN (fun i o h1 h2' h3' => ?_) _ _ _ _ hS (fun _ _ h => by cases h) ?_
  · have : i = m + 1 := by omega
    subst this
    rw [hA] at h3'
    cases h3'
    exact hnew
  have := GO_lex (P := P) (Q := Q) (S := S) (N := N) (md := .any) (m := m) (q := m + 1) (p := m + 2) b1 (fun i hi => waitsM_spec b2 hi) (by omega) 4 (fun _ => none) m 0 (Array.replicate ops.size false) a (by omega) b3 ?_
  · rw [b0] at this ⊢
    rw [Nat.add_comm m 4]
    rw [Nat.add_comm m 4] at this
    exact this
  · have key : ∀ n' k a, Chain P ops S (fun a' => ∃ v, Yields P ops oO v a' ∧ (∀ u, Yields P ops oO v (a'.put oA.dst u)) ∧ ∀ b w', S w' → N w' b → oS.wp P ((a'.put oO.dst v).put oA.dst (.pointer (some ⟨b, 0, none⟩))) w' (fun a1 w1 => oE.wp P a1 w1 (fun a'' w'' => Q .normal a'' w'') Q) Q) n' k a → Chain P ops S (fun a' => GO P .any ops Q S N m (m + 1) (m + 2) 4 (listedTo m 0 (Array.replicate ops.size false)) a' fun _ => none) n' k a := by
      intro n'
      induction n' with
      | zero =>
        rintro k a ⟨v, hy, hy', hh⟩
        have stop2 : ∀ b, GO P .any ops Q S N m (m + 1) (m + 2) 2 (((Lm ops m).setIfInBounds m true).setIfInBounds (m + 1) true) ((a.put oO.dst v).put oA.dst (.pointer (some ⟨b, 0, none⟩))) (upd (fun _ => none) (m + 1) b) := fun b => by
          refine Or.inl ⟨by rw [b8'.1.1]; simp, fun w' hw' hβ => wpAny_tail b8 h2 g2 h3 g3 (hh b w' hw' (hβ (m + 1) b (by simp [upd]))), ?_⟩
          rw [b8'.1.1]
          intro j hj
          have : j = m + 2 := by simpa using hj
          omega
        refine Or.inr ⟨by show Region.ready .any ops (Lm ops m) ≠ []; rw [b4]; simp, fun i hi => ?_⟩
        have hi : i ∈ Region.ready .any ops (Lm ops m) := hi
        rw [b4] at hi
        have hi' : i = m ∨ i = m + 1 := by simpa using hi
        rcases hi' with rfl | rfl
        · refine ⟨by omega, oO, h0, Or.inl ⟨by omega, v, Or.inl hy.yieldsIf, ?_⟩⟩
          refine Or.inr ⟨by show Region.ready .any ops ((Lm ops i).setIfInBounds i true) ≠ []; rw [b5]; simp, fun j hj => ?_⟩
          have hj : j ∈ Region.ready .any ops ((Lm ops i).setIfInBounds i true) := hj
          rw [b5] at hj
          have : j = i + 1 := by simpa using hj
          subst this
          exact ⟨by omega, oA, hA, Or.inr ⟨by omega, fun b _ => stop2 b⟩⟩
        · refine ⟨by omega, oA, hA, Or.inr ⟨by omega, fun b _ => ?_⟩⟩
          have e : ((Lm ops m).setIfInBounds (m + 1) true).setIfInBounds m true = ((Lm ops m).setIfInBounds m true).setIfInBounds (m + 1) true := Array.setIfInBounds_comm _ _ (by omega)
          have hput : (a.put oA.dst (.pointer (some ⟨b, 0, none⟩))).put oO.dst v = (a.put oO.dst v).put oA.dst (.pointer (some ⟨b, 0, none⟩)) := (Act.put_comm a v (.pointer (some ⟨b, 0, none⟩)) hap).symm
          show GO P .any ops Q S N m (m + 1) (m + 2) 3 ((Lm ops m).setIfInBounds (m + 1) true) _ _
          refine Or.inl ⟨?_, fun w' hw' hβ => ?_, ?_⟩
          · rw [b6]
            intro j hj
            have : j = m ∨ j = m + 2 := by simpa using hj
            omega
          · refine wpAny_take (i := m) (oi := oO) (v := v) h0 b1 b7 (by rw [b6]; simp) (fun c a w => hQ _ _ c a w) (hy' _) ?_
            rw [e, hput]
            exact wpAny_tail b8 h2 g2 h3 g3 (hh b w' hw' (hβ (m + 1) b (by simp [upd])))
          · intro j hj h4 h5
            have : j = m := by omega
            subst this
            refine ⟨oO, h0, v, Or.inl (hy' _).yieldsIf, ?_⟩
            rw [e, hput]
            exact stop2 b
      | succ n' ih => intro k a ⟨o, h0, v, hy, hK⟩; exact ⟨o, h0, v, hy, ih _ _ hK⟩
    exact key _ _ _ h

/-- the same without an alloc -/
def optB0 (ops : Array Oper) (m : Nat) : Bool := decide (ops.size = m + 3) && Region.noSelect ops && waitsM .any ops m (m + 1) && lexTo .any ops m 0 (Array.replicate ops.size false)
  && (Region.ready .any ops (Lm ops m) == [m, m + 1]) && Region.free .any ops (Lm ops m) m && tailB ops (m + 1) ((Lm ops m).setIfInBounds m true)
theorem region_opt0 {id m : Nat} {a : Act} {w : World} {oO oS oE : Oper} (hm : P.follows .mixedOrders = true) (hB : optB0 ops m = true) (h0 : ops[m]? = some oO) (h2 : ops[m + 1]? = some oS) (g2 : oS.guard = none) (h3 : ops[m + 2]? = some oE) (g3 : oE.guard = none)
    (hQ : ∀ d v c a w, Q (.panic c) (a.put d v) w → Q (.panic c) a w) (hSm : ∀ w w', S w → Below w.heap.size w w' → S w')
    (hS : S { w with drawn := w.drawn + 1 }) (h : Chain P ops S (fun a' => ∃ v, Yields P ops oO v a' ∧ ∀ w', S w' → oS.wp P (a'.put oO.dst v) w' (fun a1 w1 => oE.wp P a1 w1 (fun a'' w'' => Q .normal a'' w'') Q) Q) m 0 a) : (Code.region id ops true).wp P Q a w := by
  simp only [optB0, Bool.and_eq_true, decide_eq_true_eq, beq_iff_eq] at hB
  obtain ⟨⟨⟨⟨⟨⟨b0, b1⟩, b2⟩, b3⟩, b4⟩, b7⟩, b8⟩ := hB
  have b8' := b8
  simp only [tailB, Bool.and_eq_true, List.isEmpty_iff, beq_iff_eq] at b8'
  refine wp_region_any hm ?_
  refine GO_sound (S := S) (N := fun w b => b < w.heap.size) (ob := .cells #[] 0) (m := m) (q := m + 1) (p := m + 1) (β := fun _ => none) hSm (fun w w' b h1 h2 => Nat.lt_of_lt_of_le h1 h2.size) (fun _ _ h => h) (fun w _ => by simp) (fun i o h1 h2' => by omega) _ _ _ _ hS (fun _ _ h => by cases h) ?_
  have := GO_lex (P := P) (Q := Q) (S := S) (N := fun w b => b < w.heap.size) (md := .any) (m := m) (q := m + 1) (p := m + 1) b1 (fun i hi => waitsM_spec b2 hi) (by omega) 3 (fun _ => none) m 0 (Array.replicate ops.size false) a (by omega) b3 ?_
  · rw [b0] at this ⊢
    rw [Nat.add_comm m 3]
    rw [Nat.add_comm m 3] at this
    exact this
  · have key : ∀ n' k a, Chain P ops S (fun a' => ∃ v, Yields P ops oO v a' ∧ ∀ w', S w' → oS.wp P (a'.put oO.dst v) w' (fun a1 w1 => oE.wp P a1 w1 (fun a'' w'' => Q .normal a'' w'') Q) Q) n' k a → Chain P ops S (fun a' => GO P .any ops Q S (fun w b => b < w.heap.size) m (m + 1) (m + 1) 3 (listedTo m 0 (Array.replicate ops.size false)) a' fun _ => none) n' k a := by
      intro n'
      induction n' with
      | zero =>
        rintro k a ⟨v, hy, hh⟩
        show GO P .any ops Q S (fun w b => b < w.heap.size) m (m + 1) (m + 1) 3 (Lm ops m) _ _
        refine Or.inl ⟨?_, fun w' hw' _ => ?_, ?_⟩
        · rw [b4]
          intro j hj
          have : j = m ∨ j = m + 1 := by simpa using hj
          omega
        · exact wpAny_take (i := m) (oi := oO) (v := v) h0 b1 b7 (by rw [b4]; simp) (fun c a w => hQ _ _ c a w) hy (wpAny_tail b8 h2 g2 h3 g3 (hh w' hw'))
        · intro j hj h4 h5
          have : j = m := by omega
          subst this
          refine ⟨oO, h0, v, Or.inl hy.yieldsIf, ?_⟩
          refine Or.inl ⟨by rw [b8'.1.1]; simp, fun w' hw' _ => wpAny_tail b8 h2 g2 h3 g3 (hh w' hw'), ?_⟩
          rw [b8'.1.1]
          intro x hx
          have : x = j + 1 := by simpa using hx
          omega
      | succ n' ih => intro k a ⟨o, h0, v, hy, hK⟩; exact ⟨o, h0, v, hy, ih _ _ hK⟩
    exact key _ _ _ h
end
end Go.Proofs.Qxb6616476a
