import Derived.Test.Qxb6616476aOps
namespace Go.Proofs.Qxb6616476a
open Go.RowKit Go.Lib

section
variable {P : Program} {ops : Array Oper} {md : Region.Mode} {S : World → Prop} {N : World → Nat → Prop} {Q : Exit → Act → World → Prop} {m p : Nat}
/-- what has come up, has come up behind all that it waits for -/
def Down (md : Region.Mode) (ops : Array Oper) (listed : Array Bool) : Prop := ∀ j o, ops[j]? = some o → listed.getD j false = true → ∀ e ∈ o.after, Region.binds md e = true → listed.getD e.on false = true
theorem Down.set {listed : Array Bool} (h : Down md ops listed) {j : Nat} (hj : j ∈ Region.ready md ops listed) : Down md ops (listed.setIfInBounds j true) := by
  intro k o ho hk e he hb
  refine getD_set_true ?_
  by_cases hkj : j = k
  · subst hkj
    obtain ⟨_, o', ho', hall⟩ := mem_ready.1 hj
    rw [ho] at ho'
    cases ho'
    exact hall e he hb
  · rw [getD_set_ne false hkj] at hk
    exact h k o ho hk e he hb
theorem GG_firstD {i : Nat} {oi : Oper} {v : Value} (hi : ops[i]? = some oi) (him : i < m) (hsel : ∀ (j : Nat) (o : Oper) cs b, ops[j]? = some o → o.op ≠ .select cs b)
    (hpost : ∀ (listed : Array Bool), Down md ops listed → listed.getD i true = false → ∀ k ∈ Region.ready md ops listed, k < p) :
    ∀ (fuel : Nat) (listed : Array Bool) (a : Act) (β : Nat → Option Nat),
      Down md ops listed → (∀ j oj, ops[j]? = some oj → j ≠ i → listed.getD j true = false → (∀ e ∈ oj.after, Region.binds md e = true → e.on ≠ i) → oi.apart ops oj = true) →
      i ∈ Region.ready md ops listed → GrowIn P ops S oi v a →
      GG P md ops Q S N m p fuel (listed.setIfInBounds i true) (a.put oi.dst v) β → GG P md ops Q S N m p (fuel + 1) listed a β := by
  intro fuel
  induction fuel with
  | zero =>
    intro listed a β hdn _ hr hy H
    refine Or.inr ⟨fun h => (by rw [h] at hr; cases hr), fun j hj => ?_⟩
    have hjp := hpost listed hdn (mem_ready.1 hr).1 j hj
    by_cases hji : j = i
    · subst hji; exact ⟨hjp, oi, hi, Or.inl ⟨him, v, hy, H⟩⟩
    · have := H.1 j (ready_mono hj hji)
      omega
  | succ fuel ih =>
    intro listed a β hdn hfree hr hy H
    refine Or.inr ⟨fun h => (by rw [h] at hr; cases hr), fun j hj => ?_⟩
    have hjp := hpost listed hdn (mem_ready.1 hr).1 j hj
    by_cases hji : j = i
    · subst hji; exact ⟨hjp, oi, hi, Or.inl ⟨him, v, hy, H⟩⟩
    · have hjr := ready_mono hj hji
      rcases H with H | H
      · have := H.1 j hjr
        omega
      · obtain ⟨_, oj, hoj, hk⟩ := H.2 j hjr
        obtain ⟨hjun, oj', hoj', hall⟩ := mem_ready.1 hj
        have : oj' = oj := by rw [hoj] at hoj'; exact (Option.some.inj hoj').symm
        subst this
        have hnot : ∀ e ∈ oj'.after, Region.binds md e = true → e.on ≠ i := fun e he hb heq => by
          have h1 := hall e he hb
          have h0 := (mem_ready.1 hr).1
          rw [heq] at h1
          rcases Nat.lt_or_ge i listed.size with h' | h'
          · simp [h'] at h0 h1; rw [h0] at h1; cases h1
          · simp [Array.getElem?_eq_none h'] at h1
        obtain ⟨a1, a2, a3⟩ := Oper.apart_spec (hfree j oj' hoj hji hjun hnot)
        have hfree' : ∀ k ok, ops[k]? = some ok → k ≠ i → (listed.setIfInBounds j true).getD k true = false →
            (∀ e ∈ ok.after, Region.binds md e = true → e.on ≠ i) → oi.apart ops ok = true := fun k ok hk hki hun hno => by
          refine hfree k ok hk hki ?_ hno
          by_cases hjk : j = k
          · subst hjk; exact hjun
          · rw [getD_set_ne true hjk] at hun; exact hun
        have hri := ready_mono hr (Ne.symm hji)
        have keep : ∀ u, GrowIn P ops S oi v (a.put oj'.dst u) := fun u => hy.same (execOp_put oi (fun cs b => hsel i oi cs b hi) a oj'.dst u a3) (wanted_put oi a oj'.dst u a3)
        refine ⟨hjp, oj', hoj, ?_⟩
        rcases hk with ⟨hjm, u, hu, hG⟩ | ⟨hmj, hG⟩
        · refine Or.inl ⟨hjm, u, hu.same (execOp_put oj' (fun cs b => hsel j oj' cs b hoj) a oi.dst v a1).symm (wanted_put oj' a oi.dst v a1).symm, ?_⟩
          refine ih (listed.setIfInBounds j true) _ β (hdn.set hj) hfree' hri (keep u) ?_
          rw [Array.setIfInBounds_comm _ _ hji, ← Act.put_comm a v u a2]
          exact hG
        · refine Or.inr ⟨hmj, fun b hb => ?_⟩
          refine ih (listed.setIfInBounds j true) _ _ (hdn.set hj) hfree' hri (keep _) ?_
          rw [Array.setIfInBounds_comm _ _ hji, ← Act.put_comm a v _ a2]
          exact hG b hb


/-- the operations that number k waits for, in n steps -/
def behind (md : Region.Mode) (ops : Array Oper) : Nat → Nat → List Nat
  | 0, k => [k]
  | n + 1, k => k :: (((ops[k]?).map fun o => (o.after.toList.filter fun e => Region.binds md e).map (·.on)).getD []).flatMap (behind md ops n)
theorem behind_spec {listed : Array Bool} (hd : Down md ops listed) : ∀ (n k : Nat), listed.getD k false = true → ∀ i ∈ behind md ops n k, listed.getD i false = true
  | 0, k, h, i, hi => by
    simp only [behind, List.mem_singleton] at hi
    rw [hi]; exact h
  | n + 1, k, h, i, hi => by
    simp only [behind, List.mem_cons, List.mem_flatMap] at hi
    rcases hi with rfl | ⟨k', hk', hi⟩
    · exact h
    · cases ho : ops[k]? with
      | none => simp [ho] at hk'
      | some o =>
        simp only [ho, Option.map_some, Option.getD_some, List.mem_map, List.mem_filter] at hk'
        obtain ⟨e, ⟨he, hb⟩, rfl⟩ := hk'
        exact behind_spec hd n _ (hd k o ho h e (by simpa using he) hb) i hi
/-- every later operation waits for each of the first p, by steps -/
def waitsD (md : Region.Mode) (ops : Array Oper) (p n : Nat) : Bool :=
  (List.range ops.size).all fun k => decide (k < p) || (List.range p).all fun i => (((ops[k]?).map fun o => (o.after.toList.filter fun e => Region.binds md e).map (·.on)).getD []).any fun k' => (behind md ops n k').contains i
theorem waitsD_spec {n : Nat} (h : waitsD md ops p n = true) {i : Nat} (hip : i < p) (listed : Array Bool) (hdn : Down md ops listed) (hl : listed.getD i true = false) : ∀ k ∈ Region.ready md ops listed, k < p := by
  intro k hk
  obtain ⟨_, o, ho, hall⟩ := mem_ready.1 hk
  unfold waitsD at h
  rw [List.all_eq_true] at h
  have hks : k < ops.size := (Array.getElem?_eq_some_iff.1 ho).1
  have h1 := h k (by simpa using hks)
  rw [Bool.or_eq_true] at h1
  rcases h1 with h1 | h1
  · simpa using h1
  · rw [List.all_eq_true] at h1
    have h2 := h1 i (by simpa using hip)
    simp only [ho, Option.map_some, Option.getD_some, List.any_eq_true, List.mem_map, List.mem_filter] at h2
    obtain ⟨k', ⟨e, ⟨he, hb⟩, rfl⟩, h3⟩ := h2
    have h4 := hall e (by simpa using he) hb
    have h5 := behind_spec hdn n e.on h4 i (by simpa using h3)
    rcases Nat.lt_or_ge i listed.size with h' | h'
    · simp [h'] at hl h5; rw [hl] at h5; cases h5
    · simp [Array.getElem?_eq_none h'] at h5
theorem GG_lexD {q : Nat} (hs : Region.noSelect ops = true) (hw : waitsD md ops p q = true) (hmp : m ≤ p) (r : Nat) (β : Nat → Option Nat) :
    ∀ (n k : Nat) (listed : Array Bool) (a : Act), Down md ops listed → k + n ≤ m → lexTo md ops n k listed = true →
      Chain P ops S (fun a' => GG P md ops Q S N m p r (listedTo n k listed) a' β) n k a → GG P md ops Q S N m p (r + n) listed a β
  | 0, _, _, _, _, _, _, h => h
  | n + 1, k, listed, a, hdn, hk, hB, h => by
    obtain ⟨o, h0, v, hy, hK⟩ := h
    simp only [lexTo, Bool.and_eq_true] at hB
    obtain ⟨⟨hr, hf⟩, hB'⟩ := hB
    have hr' : k ∈ Region.ready md ops listed := by simpa using hr
    exact GG_firstD h0 (by omega) (Region.noSelect_spec hs) (fun li hd hli => waitsD_spec hw (by omega) li hd hli) (r + n) listed a β hdn (Region.free_spec h0 hf) hr' hy
      (GG_lexD hs hw hmp r β n (k + 1) _ _ (hdn.set hr') (by omega) hB' hK)

def L2 (ops : Array Oper) (m : Nat) : Array Bool := ((listedTo m 0 (Array.replicate ops.size false)).setIfInBounds m true).setIfInBounds (m + 1) true
def new2B (ops : Array Oper) (m n : Nat) : Bool := decide (ops.size = m + 4) && Region.noSelect ops && waitsD .any ops (m + 2) n && lexTo .any ops m 0 (Array.replicate ops.size false) && (Region.ready .any ops (listedTo m 0 (Array.replicate ops.size false)) == [m, m + 1])
  && (Region.ready .any ops ((listedTo m 0 (Array.replicate ops.size false)).setIfInBounds m true) == [m + 1]) && (Region.ready .any ops ((listedTo m 0 (Array.replicate ops.size false)).setIfInBounds (m + 1) true) == [m])
  && (Region.ready .any ops (L2 ops m) == [m + 2]) && (Region.ready .any ops ((L2 ops m).setIfInBounds (m + 2) true) == [m + 3]) && (Region.ready .any ops (((L2 ops m).setIfInBounds (m + 2) true).setIfInBounds (m + 3) true)).isEmpty
theorem wpAny_two {i j : Nat} {o o' : Oper} {listed : Array Bool} {a : Act} {w : World} (hr : Region.ready md ops listed = [i]) (hr' : Region.ready md ops (listed.setIfInBounds i true) = [j]) (hr'' : Region.ready md ops ((listed.setIfInBounds i true).setIfInBounds j true) = []) (ho : ops[i]? = some o) (hg : o.guard = none) (ho' : ops[j]? = some o') (hg' : o'.guard = none)
    (h : o.wp P a w (fun a' w' => o'.wp P a' w' (fun a'' w'' => Q .normal a'' w'') Q) Q) : wpAny P md ops Q 2 listed a w := by
  refine wpAny_all hr (by simp) fun x hx => ?_
  have : x = i := by simpa using hx
  subst this
  have hw : Region.wanted o (yielded ops a.tmps) = true := by simp [Region.wanted, hg]
  unfold wpOp
  simp only [ho, hw, if_true]
  exact .inl (Oper.wp_mono (fun a' w' h' => wpAny_last hr' hr'' ho' hg' h') h)
/-- ... beside them two allocs, behind them all two operations -/
theorem region_new2 {id m n : Nat} {a : Act} {w : World} {oA oB o2 o3 : Oper} {ob : Obj} (hm : P.follows .mixedOrders = true) (hB : new2B ops m n = true) (hA : ops[m]? = some oA) (hA' : ops[m + 1]? = some oB) (hd : ∀ d, oA.dst = some d → oB.dst ≠ some d) (hnew : NewOp P oA ob) (hnew' : NewOp P oB ob) (h2 : ops[m + 2]? = some o2) (g2 : o2.guard = none) (h3 : ops[m + 3]? = some o3) (g3 : o3.guard = none) (hSm : ∀ w w', S w → Below w.heap.size w w' → S w')
    (hNm : ∀ w w' b, N w b → Below w.heap.size w w' → N w' b) (hNl : ∀ w b, N w b → b < w.heap.size) (hN : ∀ w, S w → N (w.alloc ob) w.heap.size)
    (hS : S { w with drawn := w.drawn + 1 }) (h : Chain P ops S (fun a' => ∀ b1 b2 w', S w' → N w' b1 → N w' b2 → b1 ≠ b2 → o2.wp P ((a'.put oA.dst (.pointer (some ⟨b1, 0, none⟩))).put oB.dst (.pointer (some ⟨b2, 0, none⟩))) w' (fun a1 w1 => o3.wp P a1 w1 (fun a'' w'' => Q .normal a'' w'') Q) Q) m 0 a) : (Code.region id ops true).wp P Q a w := by
  simp only [new2B, Bool.and_eq_true, List.isEmpty_iff, decide_eq_true_eq, beq_iff_eq] at hB
  obtain ⟨⟨⟨⟨⟨⟨⟨⟨⟨b0, b1⟩, b2⟩, b3⟩, b4⟩, b5⟩, b6⟩, b7⟩, b8⟩, b9⟩ := hB
  refine wp_region_any hm ?_
  refine GG_sound (S := S) (N := N) (ob := ob) (m := m) (p := m + 2) (β := fun _ => none) hSm hNm hNl hN (fun i o h1 h2' h3' => ?_) _ _ _ _ hS (fun _ _ h => by cases h) ?_
  · by_cases e : i = m
    · subst e; rw [hA] at h3'; cases h3'; exact hnew
    · have : i = m + 1 := by omega
      subst this; rw [hA'] at h3'; cases h3'; exact hnew'
  have hdn : Down .any ops (Array.replicate ops.size false) := by
    intro j o ho hl
    exfalso
    have hj := (Array.getElem?_eq_some_iff.1 ho).1
    simp [hj] at hl
  have := GG_lexD (P := P) (Q := Q) (S := S) (N := N) (md := .any) (m := m) (p := m + 2) (q := n) b1 b2 (by omega) 4 (fun _ => none) m 0 (Array.replicate ops.size false) a hdn (by omega) b3 ?_
  · rw [b0] at this ⊢
    rw [Nat.add_comm m 4]
    rw [Nat.add_comm m 4] at this
    exact this
  · have key : ∀ n' k a, Chain P ops S (fun a' => ∀ b1 b2 w', S w' → N w' b1 → N w' b2 → b1 ≠ b2 → o2.wp P ((a'.put oA.dst (.pointer (some ⟨b1, 0, none⟩))).put oB.dst (.pointer (some ⟨b2, 0, none⟩))) w' (fun a1 w1 => o3.wp P a1 w1 (fun a'' w'' => Q .normal a'' w'') Q) Q) n' k a → Chain P ops S (fun a' => GG P .any ops Q S N m (m + 2) 4 (listedTo m 0 (Array.replicate ops.size false)) a' fun _ => none) n' k a := by
      intro n'
      induction n' with
      | zero =>
        intro k a hh
        refine Or.inr ⟨by rw [b4]; simp, fun i hi => ?_⟩
        rw [b4] at hi
        have hi' : i = m ∨ i = m + 1 := by simpa using hi
        rcases hi' with rfl | rfl
        · refine ⟨by omega, oA, hA, Or.inr ⟨Nat.le_refl _, fun x _ => ?_⟩⟩
          refine Or.inr ⟨by rw [b5]; simp, fun j hj => ?_⟩
          rw [b5] at hj
          have : j = i + 1 := by simpa using hj
          subst this
          refine ⟨by omega, oB, hA', Or.inr ⟨by omega, fun y hy => ?_⟩⟩
          refine Or.inl ⟨by show ∀ j ∈ Region.ready .any ops (L2 ops i), _; rw [b7]; simp, fun w' hw' hβ => ?_⟩
          have q1 := hβ i x (by simp [upd])
          have q2 := hβ (i + 1) y (by simp [upd])
          exact wpAny_two b7 b8 b9 h2 g2 h3 g3 (hh x y w' hw' q1 q2 (hy i x (by simp [upd])))
        · refine ⟨by omega, oB, hA', Or.inr ⟨by omega, fun y _ => ?_⟩⟩
          refine Or.inr ⟨by rw [b6]; simp, fun j hj => ?_⟩
          rw [b6] at hj
          have : j = m := by simpa using hj
          subst this
          refine ⟨by omega, oA, hA, Or.inr ⟨Nat.le_refl _, fun x hx => ?_⟩⟩
          have eL : ((listedTo j 0 (Array.replicate ops.size false)).setIfInBounds (j + 1) true).setIfInBounds j true = L2 ops j := by
            unfold L2
            rw [Array.setIfInBounds_comm _ _ (by omega)]
          rw [eL, Act.put_comm a (.pointer (some ⟨y, 0, none⟩)) (.pointer (some ⟨x, 0, none⟩)) (x := oB.dst) (y := oA.dst) (fun d hd1 hd2 => hd d hd2 hd1)]
          refine Or.inl ⟨by rw [b7]; simp, fun w' hw' hβ => ?_⟩
          have q1 := hβ j x (by simp [upd])
          have q2 := hβ (j + 1) y (by simp [upd])
          exact wpAny_two b7 b8 b9 h2 g2 h3 g3 (hh x y w' hw' q1 q2 (Ne.symm (hx (j + 1) y (by simp [upd]))))
      | succ n' ih => intro k a ⟨o, h0, v, hy, hK⟩; exact ⟨o, h0, v, hy, ih _ _ hK⟩
    exact key _ _ _ h
end
end Go.Proofs.Qxb6616476a
