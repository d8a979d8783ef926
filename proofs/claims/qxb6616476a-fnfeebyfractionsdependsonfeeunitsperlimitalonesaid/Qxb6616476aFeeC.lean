import Derived.Test.Qxb6616476aFeeB
namespace Go.Proofs.Qxb6616476a
open Go.RowKit Go.Lib

theorem wpList_yield {P : Program} {ops : Array Oper} {S : World → Prop} {Q : Exit → Act → World → Prop} {op : Oper} {rest : List Oper} {a : Act} {w : World} {v : Value} (hy : YieldsIf P ops S op v a) (hS : S w) (h : wpList P ops Q rest (a.put op.dst v) w) : wpList P ops Q (op :: rest) a w := by
  rcases hy with ⟨hw, hr⟩ | ⟨hw, rfl⟩
  · unfold wpList
    simp only [hw, if_true, Oper.wp, hr w hS, Oper.upon]
    first | exact h | exact .inl h
  · unfold wpList
    simp only [hw, Bool.false_eq_true, if_false]
    exact h
/-- the words of the sum, the flags, the answer -/
theorem fee_fin {z dv : Nat → Int} {u : Nat} (hd : ∀ k, k < 5 → 0 < dv k) (hz : ∀ k, k < 5 → Big (z k)) (hu : Top z dv u) {s1 s2 s3 c : Int} {fr g1 g2 g3 ff : Bool}
    (e1 : s1 = (z u / dv u + z 3 / dv 3) % 115792089237316195423570985008687907853269984665640564039457584007913129639936) (e2 : s2 = (s1 + z 4 / dv 4) % 115792089237316195423570985008687907853269984665640564039457584007913129639936) (e3 : s3 = (s2 + c) % 115792089237316195423570985008687907853269984665640564039457584007913129639936)
    (hc : c = FN (z u % dv u) (dv u) (z 3 % dv 3) (dv 3) (z 4 % dv 4) (dv 4) / (dv u * dv 3 * dv 4)) (hfr : fr = decide (FN (z u % dv u) (dv u) (z 3 % dv 3) (dv 3) (z 4 % dv 4) (dv 4) % (dv u * dv 3 * dv 4) ≠ 0))
    (hg1 : g1 = decide (z u / dv u + z 3 / dv 3 < 115792089237316195423570985008687907853269984665640564039457584007913129639936)) (hg2 : g2 = decide (s1 + z 4 / dv 4 < 115792089237316195423570985008687907853269984665640564039457584007913129639936)) (hg3 : g3 = decide (s2 + c < 115792089237316195423570985008687907853269984665640564039457584007913129639936))
    {a3 a2 a1 a0 : Int} (w3 : Word a3) (w2 : Word a2) (w1 : Word a1) (w0 : Word a0) (hs : V4 a3 a2 a1 a0 = s3) (hff : decide (a3 = 0) = ff) {fee : Int} {ok' : Bool}
    (h : ((a1 = 0 ∧ a0 = 0 ∧ fr = false) ∧ fee = a2 ∧ ok' = true) ∨ (¬ (a1 = 0 ∧ a0 = 0 ∧ fr = false) ∧ 0 ≤ fee ∧ ∃ k, a2 + 1 = V2 k fee ∧ 0 ≤ k ∧ fee < 18446744073709551616 ∧ (ok' = true ↔ k = 0))) :
    Right z dv fee (((g1 && g2) && g3) && (ff && ok')) := by
  obtain ⟨p3, q3⟩ := w3; obtain ⟨p2, q2⟩ := w2; obtain ⟨p1, q1⟩ := w1; obtain ⟨p0, q0⟩ := w0
  unfold V4 at hs
  have hdiv : s3 / 340282366920938463463374607431768211456 = a3 * 18446744073709551616 + a2 := by omega
  have hmod : s3 % 340282366920938463463374607431768211456 = a1 * 18446744073709551616 + a0 := by omega
  have hz0 : s3 % 340282366920938463463374607431768211456 = 0 ↔ a1 = 0 ∧ a0 = 0 := by omega
  refine fee_end hd hz hu e1 e2 e3 hc hfr ?_ ?_
  · intro ho
    by_cases k1 : z u / dv u + z 3 / dv 3 < 115792089237316195423570985008687907853269984665640564039457584007913129639936
    · by_cases k2 : s1 + z 4 / dv 4 < 115792089237316195423570985008687907853269984665640564039457584007913129639936
      · by_cases k3 : s2 + c < 115792089237316195423570985008687907853269984665640564039457584007913129639936
        · right; right; right
          rw [hg1, hg2, hg3, decide_eq_true k1, decide_eq_true k2, decide_eq_true k3] at ho
          simp only [Bool.true_and] at ho
          by_cases k4 : a3 = 0
          · right
            rw [← hff, decide_eq_true k4, Bool.true_and] at ho
            rcases h with ⟨_, _, h2⟩ | ⟨h1, h2, k, h3, h4, h5, h6⟩
            · rw [h2] at ho; cases ho
            · have hk : k ≠ 0 := fun e => by have := h6.2 e; rw [this] at ho; cases ho
              unfold V2 at h3
              refine ⟨by omega, fun h7 => h1 ⟨(hz0.1 h7.1).1, (hz0.1 h7.1).2, h7.2⟩⟩
          · left; omega
        · exact Or.inr (Or.inr (Or.inl k3))
      · exact Or.inr (Or.inl k2)
    · exact Or.inl k1
  · intro ho
    simp only [Bool.and_eq_true] at ho
    obtain ⟨⟨⟨o1, o2⟩, o3⟩, o4, o5⟩ := ho
    rw [hg1, decide_eq_true_iff] at o1
    rw [hg2, decide_eq_true_iff] at o2
    rw [hg3, decide_eq_true_iff] at o3
    rw [← hff, decide_eq_true_iff] at o4
    refine ⟨⟨o1, o2, o3⟩, ?_⟩
    rcases h with ⟨h1, h2, _⟩ | ⟨h1, h2, k, h3, h4, h5, h6⟩
    · refine ⟨by omega, ?_⟩
      rw [if_pos ⟨hz0.2 ⟨h1.1, h1.2.1⟩, h1.2.2⟩]
      omega
    · refine ⟨h2, ?_⟩
      rw [if_neg (fun h7 => h1 ⟨(hz0.1 h7.1).1, (hz0.1 h7.1).2, h7.2⟩)]
      have := h6.1 o5
      unfold V2 at h3
      omega
theorem y_assign {ops : Array Oper} {S : World → Prop} {a : Act} {o : Oper} (hg : o.guard = none) (x : Operand) (ho : o.op = .assign x) (v : Value) (hx : a.eval x = v) : YieldsIf Try.prog ops S o v a := by
  refine Or.inl ⟨by simp [Region.wanted, hg], fun w _ => ?_⟩
  unfold execOp
  simp only [ho, hx]
  rfl
/-- a plain region, all of whose operations yield -/
theorem region_plain {Q : Exit → Act → World → Prop} {l : List Oper} {id : Nat} {a : Act} {w : World} (h : ChainY Try.prog l.toArray (fun w' => w' = w) (fun a' => Q .normal a' w) l a) : (Code.region id l.toArray false).wp Try.prog Q a w := by
  refine wp_region_lit ?_
  have key : ∀ (l' : List Oper) (a : Act), ChainY Try.prog l.toArray (fun w' => w' = w) (fun a' => Q .normal a' w) l' a → wpList Try.prog l.toArray Q l' a w := by
    intro l'
    induction l' with
    | nil => intro a h; exact h
    | cons o l' ih =>
      rintro a ⟨v, h1, h2⟩
      exact wpList_yield h1 rfl (ih _ h2)
  exact key l a h
/-- what a guarded move leaves -/
def gv (b : Bool) (v : Value) : Value := if b = true then v else undef
theorem k_gmove {ops : Array Oper} {S : World → Prop} {a : Act} {o : Oper} {g : Nat} {b0 : Bool} {og : Oper} {s : Nat} (hg : o.guard = some (g, true)) (ho' : ops[g]? = some og) (hd : og.dst = some s) (hs : s < a.tmps.size) (hv : a.eval (.tmp s) = .bool b0) (x : Operand) (ho : o.op = .move x) (v : Value) (hx : a.eval x = v) : YieldsIf Try.prog ops S o (gv b0 v) a := z_gmove hg ho' hd hs hv x ho v hx
theorem k_pickand {ops : Array Oper} {S : World → Prop} {a : Act} {o : Oper} (hg : o.guard = none) (x y : Operand) (ho : o.op = .pick x y (.const (.bool false))) (b0 f : Bool) (hx : a.eval x = .bool b0) (hy : a.eval y = gv b0 (.bool f)) : YieldsIf Try.prog ops S o (.bool (b0 && f)) a := z_pickand hg x y ho b0 f hx hy
end Go.Proofs.Qxb6616476a
