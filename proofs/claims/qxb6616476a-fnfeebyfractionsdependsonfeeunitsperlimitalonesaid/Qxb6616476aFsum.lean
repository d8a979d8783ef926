import Derived.Test.Qxb6616476aOps2
import Derived.Test.Qxb6616476aAns
import Derived.Laws.StructEq
namespace Go.Proofs.Qxb6616476a
open Go.RowKit Go.Lib
set_option linter.unusedSimpArgs false
section
variable {ops : Array Oper} {S : World → Prop} {a : Act} {o : Oper}
theorem g_build60 (hg : o.guard = none) (ho : o.op = .build 60 #[]) : GrowIn Try.prog ops S o (.agg #[.int .u64 0, .int .u64 0]) a := by
  refine Or.inl (Or.inl ⟨by simp [Region.wanted, hg], fun w hw => ?_⟩)
  unfold execOp
  simp only [ho]
  generalize a.eval = ρ at *
  simp [go_sem]
theorem g_neq60 (hg : o.guard = none) (x y : Nat) (ho : o.op = .binOp .neq 60 (.tmp x) (.tmp y) 60) (p q : Int) (hx : a.eval (.tmp x) = .agg #[.int .u64 p, .int .u64 q]) (hy : a.eval (.tmp y) = .agg #[.int .u64 0, .int .u64 0]) : GrowIn Try.prog ops S o (.bool (!(p == 0 && q == 0))) a := by
  refine Or.inl (Or.inl ⟨by simp [Region.wanted, hg], fun w hw => ?_⟩)
  unfold execOp
  simp only [ho, hx, hy]
  simp [go_sem]
  by_cases h1 : p = 0 <;> by_cases h2 : q = 0 <;> simp [h1, h2]
theorem h_neq22 (hw : Region.wanted o (yielded ops a.tmps) = true) (x : Operand) (ho : o.op = .binOp .neq 22 x (.const (.int .u64 0)) 22) (c : Int) (hx : a.eval x = .int .u64 c) : GrowIn Try.prog ops S o (.bool (!(c == 0))) a := by
  refine Or.inl (Or.inl ⟨hw, fun w _ => ?_⟩)
  have hk : a.eval (.const (.int .u64 0)) = .int .u64 0 := rfl
  unfold execOp
  simp only [ho, hx, hk]
  simp [go_sem]
  rfl
theorem h_load (hw : Region.wanted o (yielded ops a.tmps) = true) (x : Operand) (ho : o.op = .load 22 x) (ad : Addr) (v : Value) (hx : a.eval x = .pointer (some ad)) (hS : ∀ w, S w → w.cell? ad = some v) : GrowIn Try.prog ops S o v a := by
  refine Or.inl (Or.inl ⟨hw, fun w hw' => ?_⟩)
  have h := hS w hw'
  unfold execOp
  simp only [ho, hx]
  simp [go_sem, h]
theorem h_field (hw : Region.wanted o (yielded ops a.tmps) = true) (T : TypeId) (i off : Nat) (x : Operand) (ho : o.op = .fieldAddr T x i) (b of : Nat) (hx : a.eval x = .pointer (some ⟨b, of, none⟩))
    (hT : ∀ b of w, (Instr.fieldAt T (.pointer (some ⟨b, of, none⟩)) i).run Try.prog w = .ok (.pointer (some ⟨b, of + off, none⟩)) w) : GrowIn Try.prog ops S o (.pointer (some ⟨b, of + off, none⟩)) a := by
  refine Or.inl (Or.inl ⟨hw, fun w _ => ?_⟩)
  unfold execOp
  simp only [ho, hx]
  rw [Sem.run_bind, hT]
  rfl
end
theorem U2_def (x : Int) : U2 x = #[.int .u64 (x / 18446744073709551616 % 18446744073709551616), .int .u64 (x % 18446744073709551616)] := rfl
theorem U2_nz {x : Int} (h : 0 ≤ x ∧ x < 340282366920938463463374607431768211456) : (!((x / 18446744073709551616 % 18446744073709551616) == 0 && (x % 18446744073709551616) == 0)) = !(decide (x = 0)) := by
  by_cases h0 : x = 0
  · subst h0; rfl
  · have : ¬ ((x / 18446744073709551616 % 18446744073709551616) = 0 ∧ (x % 18446744073709551616) = 0) := by omega
    simp [h0]
    omega

attribute [local irreducible] U2 U3 U4

theorem cf43 (args : Array Value) (w : World) : (callFunc 43 args).run Try.prog w = .ok (.enter 43 args) w := by
  simp [callFunc, go_sem, Try.func43, Try.f43]
theorem cf47 (args : Array Value) (w : World) : (callFunc 47 args).run Try.prog w = .ok (.enter 47 args) w := by
  simp [callFunc, go_sem, Try.func47, Try.f47]
theorem cf48 (args : Array Value) (w : World) : (callFunc 48 args).run Try.prog w = .ok (.enter 48 args) w := by
  simp [callFunc, go_sem, Try.func48, Try.f48]
/-- what lies in memory -/
def Env35 (n : Nat) (an ad bn bd cn cd : Int) (w : World) : Prop :=
  (w.cell? ⟨n, 2, none⟩ = some (.int .u64 an) ∧ w.cell? ⟨n, 3, none⟩ = some (.int .u64 ad)) ∧ (w.cell? ⟨n + 1, 2, none⟩ = some (.int .u64 bn) ∧ w.cell? ⟨n + 1, 3, none⟩ = some (.int .u64 bd)) ∧ (w.cell? ⟨n + 1 + 1, 2, none⟩ = some (.int .u64 cn) ∧ w.cell? ⟨n + 1 + 1, 3, none⟩ = some (.int .u64 cd)) ∧ n + 1 + 1 < w.heap.size
theorem Env35.mono {n : Nat} {an ad bn bd cn cd : Int} {w w' : World} {B : Nat} (h : Env35 n an ad bn bd cn cd w) (hw : Below B w w') (hB : n + 1 + 1 < B) : Env35 n an ad bn bd cn cd w' := by
  obtain ⟨⟨a1, a2⟩, ⟨b1, b2⟩, ⟨c1, c2⟩, hs⟩ := h
  have := hw.size
  refine ⟨⟨?_, ?_⟩, ⟨?_, ?_⟩, ⟨?_, ?_⟩, by omega⟩
  · rw [hw.cell (p := ⟨n, 2, none⟩) (by show n < B; omega)]; exact a1
  · rw [hw.cell (p := ⟨n, 3, none⟩) (by show n < B; omega)]; exact a2
  · rw [hw.cell (p := ⟨n + 1, 2, none⟩) (by show n + 1 < B; omega)]; exact b1
  · rw [hw.cell (p := ⟨n + 1, 3, none⟩) (by show n + 1 < B; omega)]; exact b2
  · rw [hw.cell (p := ⟨n + 1 + 1, 2, none⟩) (by show n + 1 + 1 < B; omega)]; exact c1
  · rw [hw.cell (p := ⟨n + 1 + 1, 3, none⟩) (by show n + 1 + 1 < B; omega)]; exact c2
theorem U2_size (x : Int) : (U2 x).size = 2 := by unfold U2; rfl
theorem U2_ones (x : Int) : (U2 x).all (·.oneCell') = true := by unfold U2; simp [Value.oneCell']
theorem U2_info (x : Int) : (Try.prog.info? 60).map (·.size) = some (U2 x).size := by rw [U2_size]; exact Try.size60
theorem U2_info' (x : Int) : (Try.prog.info? 60).map (·.size) = some (U2 x).toList.length := by rw [Array.length_toList, U2_size]; exact Try.size60
theorem there_newT (w : World) (x : Int) (T : TypeId) (Z : Array Value) (hz : Z.size = 2) : (w.alloc (.cells Z T)).there w.heap.size 0 (U2 x).size := by
  have h := there_new w T Z
  rw [hz] at h
  rw [U2_size]
  exact h
theorem laid60 (w : World) (x : Int) (Z : Array Value) (hz : Z.size = 2) : ((w.alloc (.cells Z 60)).setCells w.heap.size 0 (U2 x).toList).rangeAt w.heap.size 0 (U2 x).toList ∧ Below w.heap.size w ((w.alloc (.cells Z 60)).setCells w.heap.size 0 (U2 x).toList) ∧ w.heap.size < ((w.alloc (.cells Z 60)).setCells w.heap.size 0 (U2 x).toList).heap.size := by
  have ht := there_new w 60 Z
  rw [hz] at ht
  have hb : Below w.heap.size w (w.alloc (.cells Z 60)) := (Below.refl _ _).alloc (Nat.le_refl _) _
  refine ⟨World.rangeAt_setCells_same _ _ _ _ (by rw [Array.length_toList, U2_size]; exact ht), below_setCells (Nat.le_refl _) _ _ _ hb, ?_⟩
  rw [size_setCells]
  simp
theorem prod_lt {a b : Int} (ha : Word a) (hb : Word b) : 0 ≤ a * b ∧ a * b < 340282366920938463463374607431768211456 := by
  obtain ⟨a1, a2⟩ := ha; obtain ⟨b1, b2⟩ := hb
  have h1 := Int.mul_nonneg a1 b1
  have h2 : a * b ≤ 18446744073709551615 * 18446744073709551615 := Int.mul_le_mul (by omega) (by omega) b1 (by omega)
  omega
theorem prod3_lt {x b : Int} (hx : 0 ≤ x ∧ x < 340282366920938463463374607431768211456) (hb : Word b) : 0 ≤ x * b ∧ x * b < 6277101735386680763835789423207666416102355444464034512896 := by
  obtain ⟨a1, a2⟩ := hx; obtain ⟨b1, b2⟩ := hb
  have h1 := Int.mul_nonneg a1 b1
  have h2 : x * b ≤ 340282366920938463463374607431768211455 * 18446744073709551615 := Int.mul_le_mul (by omega) (by omega) b1 (by omega)
  omega
theorem cmpI_nonneg {x y : Int} : 0 ≤ cmpI x y ↔ y ≤ x := by
  unfold cmpI
  by_cases h1 : x = y
  · simp [h1]
  · by_cases h2 : x < y
    · simp [h1, h2]
    · simp [h1, h2]; omega

set_option maxRecDepth 100000 in
set_option maxHeartbeats 4000000 in
theorem fracSum (an ad bn bd cn cd : Int) (h1 : Word an) (h2 : Word ad) (h3 : Word bn) (h4 : Word bd) (h5 : Word cn) (h6 : Word cd) (ha : an < ad) (hb : bn < bd) (hc : cn < cd) (w : World) :
    Calls Try.prog 35 #[.agg #[.int .u64 0, .int .u64 0, .int .u64 an, .int .u64 ad], .agg #[.int .u64 0, .int .u64 0, .int .u64 bn, .int .u64 bd], .agg #[.int .u64 0, .int .u64 0, .int .u64 cn, .int .u64 cd]] w fun e w' => (∃ whole frac, e = .returned (.tuple #[.int .u64 whole, .bool frac]) ∧ IsFrac an ad bn bd cn cd whole frac) ∧ Below w.heap.size w w' := by
  have HW : Hid ((Word an ∧ Word ad ∧ Word bn ∧ Word bd ∧ Word cn ∧ Word cd) ∧ an < ad ∧ bn < bd ∧ cn < cd) := ⟨⟨h1, h2, h3, h4, h5, h6⟩, ha, hb, hc⟩
  have HD : Hid ((0 < ad * bd ∧ ad * bd < 340282366920938463463374607431768211456) ∧ (0 ≤ an * bd ∧ an * bd < ad * bd) ∧ (0 ≤ bn * ad ∧ bn * ad < ad * bd)) := by
    obtain ⟨p1, p2⟩ := h1; obtain ⟨q1, q2⟩ := h3; obtain ⟨r1, r2⟩ := h2; obtain ⟨s1, s2⟩ := h4
    refine ⟨⟨Int.mul_pos (by omega) (by omega), (prod_lt ⟨r1, r2⟩ ⟨s1, s2⟩).2⟩, ⟨Int.mul_nonneg p1 s1, Int.mul_lt_mul_of_pos_right ha (by omega)⟩, Int.mul_nonneg q1 r1, ?_⟩
    rw [Int.mul_comm ad bd]
    exact Int.mul_lt_mul_of_pos_right hb (by omega)
  clear h1 h2 h3 h4 h5 h6 ha hb hc
  have HB0 : Hid (Env35 w.heap.size an ad bn bd cn cd (((w.alloc (.cells #[.int .u64 0, .int .u64 0, .int .u64 an, .int .u64 ad] 107)).alloc (.cells #[.int .u64 0, .int .u64 0, .int .u64 bn, .int .u64 bd] 107)).alloc (.cells #[.int .u64 0, .int .u64 0, .int .u64 cn, .int .u64 cd] 107)) ∧ Below w.heap.size w (((w.alloc (.cells #[.int .u64 0, .int .u64 0, .int .u64 an, .int .u64 ad] 107)).alloc (.cells #[.int .u64 0, .int .u64 0, .int .u64 bn, .int .u64 bd] 107)).alloc (.cells #[.int .u64 0, .int .u64 0, .int .u64 cn, .int .u64 cd] 107)) ∧ (((w.alloc (.cells #[.int .u64 0, .int .u64 0, .int .u64 an, .int .u64 ad] 107)).alloc (.cells #[.int .u64 0, .int .u64 0, .int .u64 bn, .int .u64 bd] 107)).alloc (.cells #[.int .u64 0, .int .u64 0, .int .u64 cn, .int .u64 cd] 107)).heap.size = w.heap.size + 1 + 1 + 1) := by
    have k1 : Blk (((w.alloc (.cells #[.int .u64 0, .int .u64 0, .int .u64 an, .int .u64 ad] 107)).alloc (.cells #[.int .u64 0, .int .u64 0, .int .u64 bn, .int .u64 bd] 107)).alloc (.cells #[.int .u64 0, .int .u64 0, .int .u64 cn, .int .u64 cd] 107)) w.heap.size #[.int .u64 0, .int .u64 0, .int .u64 an, .int .u64 ad] 107 := ((Blk.new w #[.int .u64 0, .int .u64 0, .int .u64 an, .int .u64 ad] 107).alloc _).alloc _
    have k2 := (Blk.new (w.alloc (.cells #[.int .u64 0, .int .u64 0, .int .u64 an, .int .u64 ad] 107)) #[.int .u64 0, .int .u64 0, .int .u64 bn, .int .u64 bd] 107).alloc (.cells #[.int .u64 0, .int .u64 0, .int .u64 cn, .int .u64 cd] 107)
    have k3 := Blk.new ((w.alloc (.cells #[.int .u64 0, .int .u64 0, .int .u64 an, .int .u64 ad] 107)).alloc (.cells #[.int .u64 0, .int .u64 0, .int .u64 bn, .int .u64 bd] 107)) #[.int .u64 0, .int .u64 0, .int .u64 cn, .int .u64 cd] 107
    simp only [World.size_alloc] at k2 k3
    exact ⟨⟨⟨k1.cell 2, k1.cell 3⟩, ⟨k2.cell 2, k2.cell 3⟩, ⟨k3.cell 2, k3.cell 3⟩, by simp only [World.size_alloc]; omega⟩, by go_grown, by simp only [World.size_alloc]⟩
  have HZ : Hid ((#[.int .u64 0, .int .u64 0] : Array Value).size = 2) := rfl
  go_enter Try.func35, Try.ntmps35
  go_wp2_with fail
  generalize (((w.alloc (.cells #[.int .u64 0, .int .u64 0, .int .u64 an, .int .u64 ad] 107)).alloc (.cells #[.int .u64 0, .int .u64 0, .int .u64 bn, .int .u64 bd] 107)).alloc (.cells #[.int .u64 0, .int .u64 0, .int .u64 cn, .int .u64 cd] 107)) = W0 at *
  refine (wide2 ad bd HW.out.1.2.1 HW.out.1.2.2.2.1 _).mono ?_
  rintro e w1 ⟨rfl, hb⟩
  have HB1 : Hid (Below W0.heap.size W0 w1) := hb
  clear hb
  go_upto_region 2 with (refine wpList_store_mid rfl 60 (.tmp 8) (.tmp 17) rfl w1.heap.size 0 (U2 (ad * bd)) rfl rfl (there_newT w1 _ _ _ HZ.out) (U2_info _) (U2_ones _) ?_)
  obtain ⟨x1, x2, x3⟩ := laid60 w1 (ad * bd) #[.int .u64 0, .int .u64 0] HZ.out
  generalize (w1.alloc (.cells #[.int .u64 0, .int .u64 0] 60)).setCells w1.heap.size 0 (U2 (ad * bd)).toList = W1 at *
  have H1 : Hid (Below w.heap.size w W1 ∧ Env35 w.heap.size an ad bn bd cn cd W1 ∧ W1.rangeAt w1.heap.size 0 (U2 (ad * bd)).toList ∧ w1.heap.size < W1.heap.size) := by
    have s0 := HB0.out.2.2
    have s1 := HB1.out.size
    have b1 : Below W0.heap.size W0 W1 := HB1.out.trans (x2.mono s1)
    exact ⟨HB0.out.2.1.trans (b1.mono (by omega)), HB0.out.1.mono b1 (by omega), x1, x3⟩
  clear x1 x2 x3 HB0 HB1
  generalize w1.heap.size = b8 at *
  clear w1 W0
  go_wp2_with fail
  refine region_new60 (m := 10) (n := 3) 9 10 (.tmp 22) (.tmp 27) (by decide) (by kernel_rfl) rfl ⟨rfl, rfl, rfl⟩ ⟨rfl, rfl, rfl⟩ ⟨rfl, rfl, rfl⟩ ⟨rfl, rfl, rfl⟩ ⟨by simp, by simp⟩ ⟨by simp, by simp⟩ ?_
  have HC : Hid (∀ w', Below W1.heap.size W1 w' → Env35 w.heap.size an ad bn bd cn cd w') := fun w' hw' => H1.out.2.1.mono hw' H1.out.2.1.2.2.2
  simp only [List.take_succ_cons, List.take_zero]
  refine ChainL.frame ?_
  intro a0 ha0
  have hsz : a0.tmps.size = 73 := by rw [ha0]; rfl
  have e3 : a0.eval (.tmp 3) = .pointer (some ⟨w.heap.size, 0, none⟩) := by rw [ha0]; rfl
  have e4 : a0.eval (.tmp 4) = .pointer (some ⟨w.heap.size + 1, 0, none⟩) := by rw [ha0]; rfl
  refine ChainL.step _ (g_field rfl 107 1 2 (.tmp 3) rfl (w.heap.size) 0 (by simp (decide := true) only [ev_eq, ev_ne, ev_const, put_size, hsz, e3, e4]) fld107_1) ?_
  refine ChainL.step _ (g_load rfl (.tmp 18) rfl ⟨w.heap.size, 0 + 2, none⟩ (.int .u64 an) (by simp (decide := true) only [ev_eq, ev_ne, ev_const, put_size, hsz, e3, e4]) (fun w' hw' => (HC.out w' hw').1.1)) ?_
  refine ChainL.step _ (g_field rfl 107 2 3 (.tmp 4) rfl (w.heap.size + 1) 0 (by simp (decide := true) only [ev_eq, ev_ne, ev_const, put_size, hsz, e3, e4]) fld107_2) ?_
  refine ChainL.step _ (g_load rfl (.tmp 20) rfl ⟨w.heap.size + 1, 0 + 3, none⟩ (.int .u64 bd) (by simp (decide := true) only [ev_eq, ev_ne, ev_const, put_size, hsz, e3, e4]) (fun w' hw' => (HC.out w' hw').2.1.2)) ?_
  refine ChainL.step _ (g_call rfl 43 _ rfl rfl #[.int .u64 an, .int .u64 bd] (by simp (decide := true) [ev_eq, ev_ne, ev_const, put_size, hsz]) (cf43 _) _ (fun w' _ => wide2 an bd HW.out.1.1 HW.out.1.2.2.2.1 w')) ?_
  refine ChainL.step _ (g_field rfl 107 1 2 (.tmp 4) rfl (w.heap.size + 1) 0 (by simp (decide := true) only [ev_eq, ev_ne, ev_const, put_size, hsz, e3, e4]) fld107_1) ?_
  refine ChainL.step _ (g_load rfl (.tmp 23) rfl ⟨w.heap.size + 1, 0 + 2, none⟩ (.int .u64 bn) (by simp (decide := true) only [ev_eq, ev_ne, ev_const, put_size, hsz, e3, e4]) (fun w' hw' => (HC.out w' hw').2.1.1)) ?_
  refine ChainL.step _ (g_field rfl 107 2 3 (.tmp 3) rfl (w.heap.size) 0 (by simp (decide := true) only [ev_eq, ev_ne, ev_const, put_size, hsz, e3, e4]) fld107_2) ?_
  refine ChainL.step _ (g_load rfl (.tmp 25) rfl ⟨w.heap.size, 0 + 3, none⟩ (.int .u64 ad) (by simp (decide := true) only [ev_eq, ev_ne, ev_const, put_size, hsz, e3, e4]) (fun w' hw' => (HC.out w' hw').1.2)) ?_
  refine ChainL.step _ (g_call rfl 43 _ rfl rfl #[.int .u64 bn, .int .u64 ad] (by simp (decide := true) [ev_eq, ev_ne, ev_const, put_size, hsz]) (cf43 _) _ (fun w' _ => wide2 bn ad HW.out.1.2.2.1 HW.out.1.2.1 w')) ?_
  refine ChainL.done ⟨⟨by simp (decide := true) only [put_size, hsz], by simp (decide := true) only [put_size, hsz]⟩, U2 (an * bd), U2 (bn * ad), U2_size _, U2_size _, U2_ones _, U2_ones _, (by simp (decide := true) only [ev_eq, ev_ne, ev_const, put_size, hsz, e3, e4]), (by simp (decide := true) only [ev_eq, ev_ne, ev_const, put_size, hsz, e3, e4]), ?_⟩
  intro b9 b10 w' hS hb1 hb2 hb3 hb4 hb5 hb6 hb7
  rw [ha0]
  simp only [Act.put, List.setIfInBounds_toArray, List.set_cons_succ, List.set_cons_zero]
  have H2 : Hid (Below w.heap.size w ((w'.setCells b9 0 (U2 (an * bd)).toList).setCells b10 0 (U2 (bn * ad)).toList) ∧ Env35 w.heap.size an ad bn bd cn cd ((w'.setCells b9 0 (U2 (an * bd)).toList).setCells b10 0 (U2 (bn * ad)).toList) ∧ ((w'.setCells b9 0 (U2 (an * bd)).toList).setCells b10 0 (U2 (bn * ad)).toList).rangeAt b8 0 (U2 (ad * bd)).toList ∧ ((w'.setCells b9 0 (U2 (an * bd)).toList).setCells b10 0 (U2 (bn * ad)).toList).rangeAt b9 0 (U2 (an * bd)).toList ∧ ((w'.setCells b9 0 (U2 (an * bd)).toList).setCells b10 0 (U2 (bn * ad)).toList).rangeAt b10 0 (U2 (bn * ad)).toList ∧ b8 < ((w'.setCells b9 0 (U2 (an * bd)).toList).setCells b10 0 (U2 (bn * ad)).toList).heap.size ∧ b9 < ((w'.setCells b9 0 (U2 (an * bd)).toList).setCells b10 0 (U2 (bn * ad)).toList).heap.size ∧ b10 < ((w'.setCells b9 0 (U2 (an * bd)).toList).setCells b10 0 (U2 (bn * ad)).toList).heap.size) := by
    obtain ⟨k1, k2, k3, k4⟩ := H1.out
    have k5 : Below W1.heap.size W1 ((w'.setCells b9 0 (U2 (an * bd)).toList).setCells b10 0 (U2 (bn * ad)).toList) := below_setCells hb2 _ _ _ (below_setCells hb1 _ _ _ hS)
    have k6 := k5.size
    have k7 : ((w'.setCells b9 0 (U2 (an * bd)).toList).setCells b10 0 (U2 (bn * ad)).toList).heap.size = w'.heap.size := by rw [size_setCells, size_setCells]
    refine ⟨k1.trans (k5.mono k1.size), k2.mono k5 k2.2.2.2, range_below k3 k4 k5, World.rangeAt_setCells_apart (World.rangeAt_setCells_same _ _ _ _ (by rw [Array.length_toList, U2_size]; exact hb6)) _ _ _ (Or.inl hb5), World.rangeAt_setCells_same _ _ _ _ (by rw [Array.length_toList, U2_size]; exact World.there_setCells hb7 _ _ _), by omega, by omega, by omega⟩
  generalize (w'.setCells b9 0 (U2 (an * bd)).toList).setCells b10 0 (U2 (bn * ad)).toList = W2 at *
  clear hS hb1 hb2 hb3 hb4 hb5 hb6 hb7 HC ha0 hsz e3 e4 w' a0 H1 W1
  go_wp2_with (first
    | (refine wpList_load_mid rfl 60 (.tmp 8) rfl b8 0 rfl (U2 (ad * bd)).toList _ H2.out.2.2.1 Try.underlying60 rfl (U2_info' _) ?_)
    | (refine wpList_load_mid rfl 60 (.tmp 10) rfl b10 0 rfl (U2 (bn * ad)).toList _ H2.out.2.2.2.2.1 Try.underlying60 rfl (U2_info' _) ?_))
  try simp only [Array.toArray_toList]
  refine (sub2 (ad * bd) (bn * ad) ⟨Int.le_of_lt HD.out.1.1, HD.out.1.2⟩ ⟨HD.out.2.2.1, Int.le_of_lt HD.out.2.2.2⟩ _).mono ?_
  rintro e w3 ⟨rfl, hb⟩
  have H3 : Hid (Below W2.heap.size W2 w3) := hb
  clear hb
  go_upto_region 4 with (refine wpList_store_mid rfl 60 (.tmp 11) (.tmp 30) rfl w3.heap.size 0 (U2 (ad * bd - bn * ad)) rfl rfl (there_newT w3 _ _ _ HZ.out) (U2_info _) (U2_ones _) ?_)
  obtain ⟨x1, x2, x3⟩ := laid60 w3 (ad * bd - bn * ad) #[.int .u64 0, .int .u64 0] HZ.out
  generalize (w3.alloc (.cells #[.int .u64 0, .int .u64 0] 60)).setCells w3.heap.size 0 (U2 (ad * bd - bn * ad)).toList = W3 at *
  have H4 : Hid (Below w.heap.size w W3 ∧ Env35 w.heap.size an ad bn bd cn cd W3 ∧ W3.rangeAt b8 0 (U2 (ad * bd)).toList ∧ W3.rangeAt b9 0 (U2 (an * bd)).toList ∧ W3.rangeAt b10 0 (U2 (bn * ad)).toList ∧ W3.rangeAt w3.heap.size 0 (U2 (ad * bd - bn * ad)).toList ∧ b8 < W3.heap.size ∧ b9 < W3.heap.size ∧ b10 < W3.heap.size ∧ w3.heap.size < W3.heap.size) := by
    obtain ⟨k1, k2, k3, k4, k5, k6, k7, k8⟩ := H2.out
    have hb : Below W2.heap.size W2 W3 := H3.out.trans (x2.mono H3.out.size)
    have hs := hb.size
    exact ⟨k1.trans (hb.mono k1.size), k2.mono hb k2.2.2.2, range_below k3 k6 hb, range_below k4 k7 hb, range_below k5 k8 hb, x1, by omega, by omega, by omega, x3⟩
  clear x1 x2 x3 H2 H3
  generalize w3.heap.size = b11 at *
  clear w3 W2
  go_upto_region 5 with (fail)
  have H5 : Hid (Below w.heap.size w (W3.alloc (.cells #[.int .u64 0, .int .u64 0] 60)) ∧ Env35 w.heap.size an ad bn bd cn cd (W3.alloc (.cells #[.int .u64 0, .int .u64 0] 60)) ∧ (W3.alloc (.cells #[.int .u64 0, .int .u64 0] 60)).rangeAt b8 0 (U2 (ad * bd)).toList ∧ (W3.alloc (.cells #[.int .u64 0, .int .u64 0] 60)).rangeAt b9 0 (U2 (an * bd)).toList ∧ (W3.alloc (.cells #[.int .u64 0, .int .u64 0] 60)).rangeAt b10 0 (U2 (bn * ad)).toList ∧ (W3.alloc (.cells #[.int .u64 0, .int .u64 0] 60)).rangeAt b11 0 (U2 (ad * bd - bn * ad)).toList ∧ (W3.alloc (.cells #[.int .u64 0, .int .u64 0] 60)).there W3.heap.size 0 2 ∧ (b8 < W3.heap.size ∧ b9 < W3.heap.size ∧ b10 < W3.heap.size ∧ b11 < W3.heap.size ∧ w.heap.size + 1 + 1 < W3.heap.size) ∧ W3.heap.size < (W3.alloc (.cells #[.int .u64 0, .int .u64 0] 60)).heap.size) := by
    obtain ⟨k1, k2, k3, k4, k5, k6, k7, k8, k9, k10⟩ := H4.out
    have hb : Below W3.heap.size W3 (W3.alloc (.cells #[.int .u64 0, .int .u64 0] 60)) := (Below.refl _ _).alloc (Nat.le_refl _) _
    exact ⟨k1.trans (hb.mono k1.size), k2.mono hb k2.2.2.2, range_below k3 k7 hb, range_below k4 k8 hb, range_below k5 k9 hb, range_below k6 k10 hb, there_new W3 60 _, ⟨k7, k8, k9, k10, k2.2.2.2⟩, by simp⟩
  clear H4
  generalize W3.alloc (.cells #[.int .u64 0, .int .u64 0] 60) = W4 at *
  generalize W3.heap.size = b12 at *
  clear W3
  go_wp2_with (first
    | (refine wpList_load_mid rfl 60 (.tmp 9) rfl b9 0 rfl (U2 (an * bd)).toList _ H5.out.2.2.2.1 Try.underlying60 rfl (U2_info' _) ?_)
    | (refine wpList_load_mid rfl 60 (.tmp 11) rfl b11 0 rfl (U2 (ad * bd - bn * ad)).toList _ H5.out.2.2.2.2.2.1 Try.underlying60 rfl (U2_info' _) ?_))
  try simp only [Array.toArray_toList]
  refine (cmp2 (an * bd) (ad * bd - bn * ad) (by have := HD.out; omega) (by have := HD.out; omega) _).mono ?_
  rintro e w5 ⟨rfl, hb⟩
  have H6 : Hid (Below w.heap.size w w5 ∧ Env35 w.heap.size an ad bn bd cn cd w5 ∧ w5.rangeAt b8 0 (U2 (ad * bd)).toList ∧ w5.rangeAt b9 0 (U2 (an * bd)).toList ∧ w5.rangeAt b10 0 (U2 (bn * ad)).toList ∧ w5.rangeAt b11 0 (U2 (ad * bd - bn * ad)).toList ∧ w5.there b12 0 2 ∧ (b8 < b12 ∧ b9 < b12 ∧ b10 < b12 ∧ b11 < b12 ∧ w.heap.size + 1 + 1 < b12) ∧ b12 < w5.heap.size) := by
    obtain ⟨k1, k2, k3, k4, k5, k6, k7, k8, k9⟩ := H5.out
    have hs := hb.size
    exact ⟨k1.trans (hb.mono k1.size), k2.mono hb k2.2.2.2, range_below k3 (by omega) hb, range_below k4 (by omega) hb, range_below k5 (by omega) hb, range_below k6 (by omega) hb, there_below k7 k9 hb, k8, by omega⟩
  clear H5 hb W4
  have HWs : Hid (Word (cd - cn)) := by
    obtain ⟨p1, p2⟩ := HW.out.1.2.2.2.2.1
    obtain ⟨q1, q2⟩ := HW.out.1.2.2.2.2.2
    have := HW.out.2.2.2
    exact ⟨by omega, by omega⟩
  by_cases hge : ad * bd - bn * ad ≤ an * bd
  · have hcc : 0 ≤ cmpI (an * bd) (ad * bd - bn * ad) := by rw [cmpI_nonneg]; exact hge
    have HX : Hid ((0 ≤ an * bd - (ad * bd - bn * ad) ∧ an * bd - (ad * bd - bn * ad) < 340282366920938463463374607431768211456) ∧ an * bd + bn * ad = 1 * (ad * bd) + (an * bd - (ad * bd - bn * ad)) ∧ 0 ≤ an * bd - (ad * bd - bn * ad) ∧ an * bd - (ad * bd - bn * ad) < ad * bd) := by have := HD.out; exact ⟨by omega, by omega, by omega⟩
    have HG : Hid ((ad * bd - bn * ad ≤ an * bd)) := hge
    generalize cmpI (an * bd) (ad * bd - bn * ad) = cv at *
    clear hge
    go_wp2_with (first
      | (refine wpList_load_mid rfl 60 (.tmp 9) rfl b9 0 rfl (U2 (an * bd)).toList _ H6.out.2.2.2.1 Try.underlying60 rfl (U2_info' _) ?_)
      | (refine wpList_load_mid rfl 60 (.tmp 11) rfl b11 0 rfl (U2 (ad * bd - bn * ad)).toList _ H6.out.2.2.2.2.2.1 Try.underlying60 rfl (U2_info' _) ?_))
    try simp only [Array.toArray_toList]
    refine (sub2 (an * bd) (ad * bd - bn * ad) (by have := HD.out; omega) (by have := HD.out; have := HG.out; omega) _).mono ?_
    rintro e w6 ⟨rfl, hb⟩
    have H7 : Hid (Below w5.heap.size w5 w6 ∧ w6.there b12 0 2) := ⟨hb, there_below H6.out.2.2.2.2.2.2.1 H6.out.2.2.2.2.2.2.2.2 hb⟩
    clear hb
    go_upto_region 9 with (refine wpList_store_mid rfl 60 (.tmp 12) (.tmp 37) rfl b12 0 (U2 (an * bd - (ad * bd - bn * ad))) rfl rfl (by rw [U2_size]; exact H7.out.2) (U2_info _) (U2_ones _) ?_)
    have H8 : Hid (Below w.heap.size w (w6.setCells b12 0 (U2 (an * bd - (ad * bd - bn * ad))).toList) ∧ Env35 w.heap.size an ad bn bd cn cd (w6.setCells b12 0 (U2 (an * bd - (ad * bd - bn * ad))).toList) ∧ (w6.setCells b12 0 (U2 (an * bd - (ad * bd - bn * ad))).toList).rangeAt b8 0 (U2 (ad * bd)).toList ∧ (w6.setCells b12 0 (U2 (an * bd - (ad * bd - bn * ad))).toList).rangeAt b12 0 (U2 (an * bd - (ad * bd - bn * ad))).toList ∧ b8 < (w6.setCells b12 0 (U2 (an * bd - (ad * bd - bn * ad))).toList).heap.size ∧ b12 < (w6.setCells b12 0 (U2 (an * bd - (ad * bd - bn * ad))).toList).heap.size) := by
      obtain ⟨k1, k2, k3, k4, k5, k6, k7, k8, k9⟩ := H6.out
      have hb : Below b12 w5 (w6.setCells b12 0 (U2 (an * bd - (ad * bd - bn * ad))).toList) := below_setCells (Nat.le_refl _) _ _ _ (H7.out.1.mono (Nat.le_of_lt k9))
      have hs := H7.out.1.size
      have hn : w.heap.size ≤ b12 := by omega
      exact ⟨k1.trans (hb.mono hn), k2.mono hb k8.2.2.2.2, range_below k3 k8.1 hb, World.rangeAt_setCells_same _ _ _ _ (by rw [Array.length_toList, U2_size]; exact H7.out.2), by rw [size_setCells]; omega, by rw [size_setCells]; omega⟩
    generalize w6.setCells b12 0 (U2 (an * bd - (ad * bd - bn * ad))).toList = W6 at *
    clear H6 H7
    go_wp2_with fail
    refine region_all73 (by kernel_rfl) ?_
    have HC : Hid (∀ w', Below W6.heap.size W6 w' → Env35 w.heap.size an ad bn bd cn cd w') := fun w' hw' => H8.out.2.1.mono hw' H8.out.2.1.2.2.2
    refine ChainL.frame ?_
    intro a0 ha0
    have hsz : a0.tmps.size = 73 := by rw [ha0]; rfl
    have e5 : a0.eval (.tmp 5) = .pointer (some ⟨w.heap.size + 1 + 1, 0, none⟩) := by rw [ha0]; rfl
    have e8 : a0.eval (.tmp 8) = .pointer (some ⟨b8, 0, none⟩) := by rw [ha0]; rfl
    have e12 : a0.eval (.tmp 12) = .pointer (some ⟨b12, 0, none⟩) := by rw [ha0]; rfl
    refine ChainL.step _ (g_loadT rfl 60 _ Try.underlying60 rfl (.tmp 12) rfl b12 0 (U2 (an * bd - (ad * bd - bn * ad))) (U2_info _) (by simp (decide := true) only [ev_eq, ev_ne, ev_const, put_size, hsz, e5, e8, e12]) (fun w' hw' => range_below H8.out.2.2.2.1 H8.out.2.2.2.2.2 hw')) ?_
    refine ChainL.step _ (g_field rfl 107 2 3 (.tmp 5) rfl (w.heap.size + 1 + 1) 0 (by simp (decide := true) only [ev_eq, ev_ne, ev_const, put_size, hsz, e5, e8, e12]) fld107_2) ?_
    refine ChainL.step _ (g_load rfl (.tmp 45) rfl ⟨w.heap.size + 1 + 1, 0 + 3, none⟩ (.int .u64 cd) (by simp (decide := true) only [ev_eq, ev_ne, ev_const, put_size, hsz, e5, e8, e12]) (fun w' hw' => (HC.out w' hw').2.2.1.2)) ?_
    refine ChainL.step _ (g_call rfl 47 _ rfl rfl #[.agg (U2 (an * bd - (ad * bd - bn * ad))), .int .u64 cd] (by simp (decide := true) [ev_eq, ev_ne, ev_const, put_size, hsz]) (cf47 _) _ (fun w' _ => wide3 (an * bd - (ad * bd - bn * ad)) cd HX.out.1 HW.out.1.2.2.2.2.2 w')) ?_
    refine ChainL.step _ (g_loadT rfl 60 _ Try.underlying60 rfl (.tmp 8) rfl b8 0 (U2 (ad * bd)) (U2_info _) (by simp (decide := true) only [ev_eq, ev_ne, ev_const, put_size, hsz, e5, e8, e12]) (fun w' hw' => range_below H8.out.2.2.1 H8.out.2.2.2.2.1 hw')) ?_
    refine ChainL.step _ (g_field rfl 107 2 3 (.tmp 5) rfl (w.heap.size + 1 + 1) 0 (by simp (decide := true) only [ev_eq, ev_ne, ev_const, put_size, hsz, e5, e8, e12]) fld107_2) ?_
    refine ChainL.step _ (g_load rfl (.tmp 49) rfl ⟨w.heap.size + 1 + 1, 0 + 3, none⟩ (.int .u64 cd) (by simp (decide := true) only [ev_eq, ev_ne, ev_const, put_size, hsz, e5, e8, e12]) (fun w' hw' => (HC.out w' hw').2.2.1.2)) ?_
    refine ChainL.step _ (g_field rfl 107 1 2 (.tmp 5) rfl (w.heap.size + 1 + 1) 0 (by simp (decide := true) only [ev_eq, ev_ne, ev_const, put_size, hsz, e5, e8, e12]) fld107_1) ?_
    refine ChainL.step _ (g_load rfl (.tmp 51) rfl ⟨w.heap.size + 1 + 1, 0 + 2, none⟩ (.int .u64 cn) (by simp (decide := true) only [ev_eq, ev_ne, ev_const, put_size, hsz, e5, e8, e12]) (fun w' hw' => (HC.out w' hw').2.2.1.1)) ?_
    refine ChainL.step _ (g_sub rfl (.tmp 50) (.tmp 52) rfl cd cn (by simp (decide := true) only [ev_eq, ev_ne, ev_const, put_size, hsz, e5, e8, e12]) (by simp (decide := true) only [ev_eq, ev_ne, ev_const, put_size, hsz, e5, e8, e12]) HWs.out) ?_
    refine ChainL.step _ (g_call rfl 47 _ rfl rfl #[.agg (U2 (ad * bd)), .int .u64 (cd - cn)] (by simp (decide := true) [ev_eq, ev_ne, ev_const, put_size, hsz]) (cf47 _) _ (fun w' _ => wide3 (ad * bd) (cd - cn) ⟨Int.le_of_lt HD.out.1.1, HD.out.1.2⟩ HWs.out w')) ?_
    refine ChainL.step _ (g_call rfl 48 _ rfl rfl #[.agg (U3 ((an * bd - (ad * bd - bn * ad)) * cd)), .agg (U3 (ad * bd * (cd - cn)))] (by simp (decide := true) [ev_eq, ev_ne, ev_const, put_size, hsz]) (cf48 _) _ (fun w' _ => cmp3 ((an * bd - (ad * bd - bn * ad)) * cd) (ad * bd * (cd - cn)) (prod3_lt HX.out.1 HW.out.1.2.2.2.2.2) (prod3_lt ⟨Int.le_of_lt HD.out.1.1, HD.out.1.2⟩ HWs.out) w')) ?_
    refine ChainL.done ?_
    intro w7 hS
    rw [ha0]
    simp only [Act.put, List.setIfInBounds_toArray, List.set_cons_succ, List.set_cons_zero]
    have H9 : Hid (Below w.heap.size w w7 ∧ w7.rangeAt b12 0 (U2 (an * bd - (ad * bd - bn * ad))).toList ∧ b12 < w7.heap.size ∧ Env35 w.heap.size an ad bn bd cn cd w7) := ⟨H8.out.1.trans (hS.mono H8.out.1.size), range_below H8.out.2.2.2.1 H8.out.2.2.2.2.2 hS, by have := hS.size; have := H8.out.2.2.2.2.2; omega, HC.out w7 hS⟩
    clear hS ha0 hsz e5 e8 e12 a0 HC H8 W6
    rcases Int.lt_trichotomy ((an * bd - (ad * bd - bn * ad)) * cd) (ad * bd * (cd - cn)) with hc | hc | hc
    · have hcc : cmpI ((an * bd - (ad * bd - bn * ad)) * cd) (ad * bd * (cd - cn)) = -1 := by unfold cmpI; rw [if_neg (by omega), if_pos hc]
      have HK := (frac_core ⟨HW.out.1.1.1, HW.out.2.1⟩ ⟨HW.out.1.2.2.1.1, HW.out.2.2.1⟩ ⟨HW.out.1.2.2.2.2.1.1, HW.out.2.2.2⟩ (w := 1) (n := an * bd - (ad * bd - bn * ad)) (by omega) HX.out.2.1 HX.out.2.2).2.2 hc
      have HK : Hid _ := HK
      rw [hcc]
      clear hcc hc
      go_wp2_with fail
      by_cases hx0 : an * bd - (ad * bd - bn * ad) = 0
      · refine region_all73 (by kernel_rfl) ?_
        refine ChainL.frame ?_
        intro a0 ha0
        have hsz : a0.tmps.size = 73 := by rw [ha0]; rfl
        have e5 : a0.eval (.tmp 5) = .pointer (some ⟨w.heap.size + 1 + 1, 0, none⟩) := by rw [ha0]; rfl
        have e12 : a0.eval (.tmp 12) = .pointer (some ⟨b12, 0, none⟩) := by rw [ha0]; rfl
        have e6 : a0.eval (.tmp 6) = .int .u64 1 := by rw [ha0]; rfl
        refine ChainL.step (.int .u64 1) (g_move rfl (.tmp 6) rfl _ (by simp (decide := true) only [ev_eq, ev_ne, ev_const, put_size, hsz, e5, e12, e6])) ?_
        refine ChainL.step _ (g_loadT rfl 60 _ Try.underlying60 rfl (.tmp 12) rfl b12 0 (U2 (an * bd - (ad * bd - bn * ad))) (U2_info _) (by simp (decide := true) only [ev_eq, ev_ne, ev_const, put_size, hsz, e5, e12, e6]) (fun w' hw' => range_below H9.out.2.1 H9.out.2.2.1 hw')) ?_
        refine ChainL.step _ (g_build60 rfl rfl) ?_
        refine ChainL.step (.bool false) ((show GrowIn Try.prog _ _ _ (.bool false) _ by (have hb : (!(((an * bd - (ad * bd - bn * ad)) / 18446744073709551616 % 18446744073709551616) == 0 && ((an * bd - (ad * bd - bn * ad)) % 18446744073709551616) == 0)) = false := by (rw [U2_nz HX.out.1]; simp [hx0])); rw [← hb]; exact g_neq60 rfl 65 66 rfl _ _ (by simp (decide := true) only [ev_eq, ev_ne, ev_const, put_size, hsz]; exact congrArg Value.agg (U2_def _)) (by simp (decide := true) only [ev_eq, ev_ne, ev_const, put_size, hsz, e5, e12, e6]))) ?_
        refine ChainL.step (.bool false) (g_move rfl (.tmp 67) rfl _ (by simp (decide := true) only [ev_eq, ev_ne, ev_const, put_size, hsz, e5, e12, e6])) ?_
        refine ChainL.step _ (h_field (by rw [wanted_some (g := 4) (bb := false) (b' := false) rfl rfl rfl (by simp (decide := true) only [put_size, hsz]) (by simp (decide := true) only [ev_eq, ev_ne, ev_const, put_size, hsz, e5, e12, e6])]; rfl) 107 1 2 (.tmp 5) rfl (w.heap.size + 1 + 1) 0 (by simp (decide := true) only [ev_eq, ev_ne, ev_const, put_size, hsz, e5, e12, e6]) fld107_1) ?_
        refine ChainL.step _ (h_load (by rw [wanted_some (g := 4) (bb := false) (b' := false) rfl rfl rfl (by simp (decide := true) only [put_size, hsz]) (by simp (decide := true) only [ev_eq, ev_ne, ev_const, put_size, hsz, e5, e12, e6])]; rfl) (.tmp 69) rfl ⟨w.heap.size + 1 + 1, 0 + 2, none⟩ (.int .u64 cn) (by simp (decide := true) only [ev_eq, ev_ne, ev_const, put_size, hsz, e5, e12, e6]) (fun w' hw' => (H9.out.2.2.2.mono hw' H9.out.2.2.2.2.2.2).2.2.1.1)) ?_
        refine ChainL.step _ (h_neq22 (by rw [wanted_some (g := 4) (bb := false) (b' := false) rfl rfl rfl (by simp (decide := true) only [put_size, hsz]) (by simp (decide := true) only [ev_eq, ev_ne, ev_const, put_size, hsz, e5, e12, e6])]; rfl) (.tmp 70) rfl cn (by simp (decide := true) only [ev_eq, ev_ne, ev_const, put_size, hsz, e5, e12, e6])) ?_
        refine ChainL.step _ (h_pick (wanted_none rfl) (.tmp 68) (.const (.bool true)) (.tmp 71) rfl false (.bool (!(cn == 0))) (by simp (decide := true) only [ev_eq, ev_ne, ev_const, put_size, hsz, e5, e12, e6]) (by simp (decide := true) only [ev_eq, ev_ne, ev_const, put_size, hsz, Bool.false_eq_true, if_false])) ?_
        refine ChainL.step (.int .u64 1) (g_assign rfl (.tmp 64) rfl _ (by simp (decide := true) only [ev_eq, ev_ne, ev_const, put_size, hsz, e5, e12, e6])) ?_
        refine ChainL.step (.bool (!(cn == 0))) (g_assign rfl (.tmp 72) rfl _ (by simp (decide := true) only [ev_eq, ev_ne, ev_const, put_size, hsz, e5, e12, e6])) ?_
        refine ChainL.done ?_
        intro w8 hS
        rw [ha0]
        simp only [Act.put, List.setIfInBounds_toArray, List.set_cons_succ, List.set_cons_zero]
        have HS : Hid (Below w.heap.size w w8) := H9.out.1.trans (hS.mono H9.out.1.size)
        have HF : Hid (IsFrac an ad bn bd cn cd 1 (!(cn == 0))) := HK.out _ (by simp [hx0])
        clear hS ha0 hsz e5 e12 e6 a0
        go_wp2_with fail
        go_returns
        exact ⟨⟨1, (!(cn == 0)), rfl, HF.out⟩, HS.out⟩
      · refine region_all73 (by kernel_rfl) ?_
        refine ChainL.frame ?_
        intro a0 ha0
        have hsz : a0.tmps.size = 73 := by rw [ha0]; rfl
        have e5 : a0.eval (.tmp 5) = .pointer (some ⟨w.heap.size + 1 + 1, 0, none⟩) := by rw [ha0]; rfl
        have e12 : a0.eval (.tmp 12) = .pointer (some ⟨b12, 0, none⟩) := by rw [ha0]; rfl
        have e6 : a0.eval (.tmp 6) = .int .u64 1 := by rw [ha0]; rfl
        refine ChainL.step (.int .u64 1) (g_move rfl (.tmp 6) rfl _ (by simp (decide := true) only [ev_eq, ev_ne, ev_const, put_size, hsz, e5, e12, e6])) ?_
        refine ChainL.step _ (g_loadT rfl 60 _ Try.underlying60 rfl (.tmp 12) rfl b12 0 (U2 (an * bd - (ad * bd - bn * ad))) (U2_info _) (by simp (decide := true) only [ev_eq, ev_ne, ev_const, put_size, hsz, e5, e12, e6]) (fun w' hw' => range_below H9.out.2.1 H9.out.2.2.1 hw')) ?_
        refine ChainL.step _ (g_build60 rfl rfl) ?_
        refine ChainL.step (.bool true) ((show GrowIn Try.prog _ _ _ (.bool true) _ by (have hb : (!(((an * bd - (ad * bd - bn * ad)) / 18446744073709551616 % 18446744073709551616) == 0 && ((an * bd - (ad * bd - bn * ad)) % 18446744073709551616) == 0)) = true := by (rw [U2_nz HX.out.1]; simp [hx0])); rw [← hb]; exact g_neq60 rfl 65 66 rfl _ _ (by simp (decide := true) only [ev_eq, ev_ne, ev_const, put_size, hsz]; exact congrArg Value.agg (U2_def _)) (by simp (decide := true) only [ev_eq, ev_ne, ev_const, put_size, hsz, e5, e12, e6]))) ?_
        refine ChainL.step (.bool true) (g_move rfl (.tmp 67) rfl _ (by simp (decide := true) only [ev_eq, ev_ne, ev_const, put_size, hsz, e5, e12, e6])) ?_
        refine ChainL.step _ (h_skip (by rw [wanted_some (g := 4) (bb := false) (b' := true) rfl rfl rfl (by simp (decide := true) only [put_size, hsz]) (by simp (decide := true) only [ev_eq, ev_ne, ev_const, put_size, hsz, e5, e12, e6])]; rfl)) ?_
        refine ChainL.step _ (h_skip (by rw [wanted_some (g := 4) (bb := false) (b' := true) rfl rfl rfl (by simp (decide := true) only [put_size, hsz]) (by simp (decide := true) only [ev_eq, ev_ne, ev_const, put_size, hsz, e5, e12, e6])]; rfl)) ?_
        refine ChainL.step _ (h_skip (by rw [wanted_some (g := 4) (bb := false) (b' := true) rfl rfl rfl (by simp (decide := true) only [put_size, hsz]) (by simp (decide := true) only [ev_eq, ev_ne, ev_const, put_size, hsz, e5, e12, e6])]; rfl)) ?_
        refine ChainL.step _ (h_pick (wanted_none rfl) (.tmp 68) (.const (.bool true)) (.tmp 71) rfl true (.bool true) (by simp (decide := true) only [ev_eq, ev_ne, ev_const, put_size, hsz, e5, e12, e6]) rfl) ?_
        refine ChainL.step (.int .u64 1) (g_assign rfl (.tmp 64) rfl _ (by simp (decide := true) only [ev_eq, ev_ne, ev_const, put_size, hsz, e5, e12, e6])) ?_
        refine ChainL.step (.bool true) (g_assign rfl (.tmp 72) rfl _ (by simp (decide := true) only [ev_eq, ev_ne, ev_const, put_size, hsz, e5, e12, e6])) ?_
        refine ChainL.done ?_
        intro w8 hS
        rw [ha0]
        simp only [Act.put, List.setIfInBounds_toArray, List.set_cons_succ, List.set_cons_zero]
        have HS : Hid (Below w.heap.size w w8) := H9.out.1.trans (hS.mono H9.out.1.size)
        have HF : Hid (IsFrac an ad bn bd cn cd 1 true) := HK.out _ (by simp [hx0])
        clear hS ha0 hsz e5 e12 e6 a0
        go_wp2_with fail
        go_returns
        exact ⟨⟨1, true, rfl, HF.out⟩, HS.out⟩
    · have hcc : cmpI ((an * bd - (ad * bd - bn * ad)) * cd) (ad * bd * (cd - cn)) = 0 := by unfold cmpI; rw [if_pos hc]
      have HK : Hid (IsFrac an ad bn bd cn cd (1 + 1) false) := (frac_core ⟨HW.out.1.1.1, HW.out.2.1⟩ ⟨HW.out.1.2.2.1.1, HW.out.2.2.1⟩ ⟨HW.out.1.2.2.2.2.1.1, HW.out.2.2.2⟩ (w := 1) (n := an * bd - (ad * bd - bn * ad)) (by omega) HX.out.2.1 HX.out.2.2).2.1 hc.symm
      rw [hcc]
      clear hcc hc
      go_wp2_with fail
      go_returns
      exact ⟨⟨1 + 1, false, rfl, HK.out⟩, H9.out.1⟩
    · have hcc : cmpI ((an * bd - (ad * bd - bn * ad)) * cd) (ad * bd * (cd - cn)) = 1 := by unfold cmpI; rw [if_neg (by omega), if_neg (by omega)]
      have HK : Hid (IsFrac an ad bn bd cn cd (1 + 1) true) := (frac_core ⟨HW.out.1.1.1, HW.out.2.1⟩ ⟨HW.out.1.2.2.1.1, HW.out.2.2.1⟩ ⟨HW.out.1.2.2.2.2.1.1, HW.out.2.2.2⟩ (w := 1) (n := an * bd - (ad * bd - bn * ad)) (by omega) HX.out.2.1 HX.out.2.2).1 hc
      rw [hcc]
      clear hcc hc
      go_wp2_with fail
      go_returns
      exact ⟨⟨1 + 1, true, rfl, HK.out⟩, H9.out.1⟩
  · have hcc : ¬ 0 ≤ cmpI (an * bd) (ad * bd - bn * ad) := by rw [cmpI_nonneg]; exact hge
    have HX : Hid ((0 ≤ an * bd + bn * ad ∧ an * bd + bn * ad < 340282366920938463463374607431768211456) ∧ an * bd + bn * ad = 0 * (ad * bd) + (an * bd + bn * ad) ∧ 0 ≤ an * bd + bn * ad ∧ an * bd + bn * ad < ad * bd) := by have := HD.out; exact ⟨by omega, by omega, by omega⟩
    have HG : Hid (¬ (ad * bd - bn * ad ≤ an * bd)) := hge
    generalize cmpI (an * bd) (ad * bd - bn * ad) = cv at *
    clear hge
    go_wp2_with (first
      | (refine wpList_load_mid rfl 60 (.tmp 9) rfl b9 0 rfl (U2 (an * bd)).toList _ H6.out.2.2.2.1 Try.underlying60 rfl (U2_info' _) ?_)
      | (refine wpList_load_mid rfl 60 (.tmp 10) rfl b10 0 rfl (U2 (bn * ad)).toList _ H6.out.2.2.2.2.1 Try.underlying60 rfl (U2_info' _) ?_))
    try simp only [Array.toArray_toList]
    refine (add2 (an * bd) (bn * ad) HD.out.2.1.1 HD.out.2.2.1 (by have := HD.out; have := HG.out; omega) _).mono ?_
    rintro e w6 ⟨⟨ok, rfl⟩, hb⟩
    have H7 : Hid (Below w5.heap.size w5 w6 ∧ w6.there b12 0 2) := ⟨hb, there_below H6.out.2.2.2.2.2.2.1 H6.out.2.2.2.2.2.2.2.2 hb⟩
    clear hb
    go_upto_region 9 with (refine wpList_store_mid rfl 60 (.tmp 12) (.tmp 42) rfl b12 0 (U2 (an * bd + bn * ad)) rfl rfl (by rw [U2_size]; exact H7.out.2) (U2_info _) (U2_ones _) ?_)
    have H8 : Hid (Below w.heap.size w (w6.setCells b12 0 (U2 (an * bd + bn * ad)).toList) ∧ Env35 w.heap.size an ad bn bd cn cd (w6.setCells b12 0 (U2 (an * bd + bn * ad)).toList) ∧ (w6.setCells b12 0 (U2 (an * bd + bn * ad)).toList).rangeAt b8 0 (U2 (ad * bd)).toList ∧ (w6.setCells b12 0 (U2 (an * bd + bn * ad)).toList).rangeAt b12 0 (U2 (an * bd + bn * ad)).toList ∧ b8 < (w6.setCells b12 0 (U2 (an * bd + bn * ad)).toList).heap.size ∧ b12 < (w6.setCells b12 0 (U2 (an * bd + bn * ad)).toList).heap.size) := by
      obtain ⟨k1, k2, k3, k4, k5, k6, k7, k8, k9⟩ := H6.out
      have hb : Below b12 w5 (w6.setCells b12 0 (U2 (an * bd + bn * ad)).toList) := below_setCells (Nat.le_refl _) _ _ _ (H7.out.1.mono (Nat.le_of_lt k9))
      have hs := H7.out.1.size
      have hn : w.heap.size ≤ b12 := by omega
      exact ⟨k1.trans (hb.mono hn), k2.mono hb k8.2.2.2.2, range_below k3 k8.1 hb, World.rangeAt_setCells_same _ _ _ _ (by rw [Array.length_toList, U2_size]; exact H7.out.2), by rw [size_setCells]; omega, by rw [size_setCells]; omega⟩
    generalize w6.setCells b12 0 (U2 (an * bd + bn * ad)).toList = W6 at *
    clear H6 H7
    go_wp2_with fail
    refine region_all73 (by kernel_rfl) ?_
    have HC : Hid (∀ w', Below W6.heap.size W6 w' → Env35 w.heap.size an ad bn bd cn cd w') := fun w' hw' => H8.out.2.1.mono hw' H8.out.2.1.2.2.2
    refine ChainL.frame ?_
    intro a0 ha0
    have hsz : a0.tmps.size = 73 := by rw [ha0]; rfl
    have e5 : a0.eval (.tmp 5) = .pointer (some ⟨w.heap.size + 1 + 1, 0, none⟩) := by rw [ha0]; rfl
    have e8 : a0.eval (.tmp 8) = .pointer (some ⟨b8, 0, none⟩) := by rw [ha0]; rfl
    have e12 : a0.eval (.tmp 12) = .pointer (some ⟨b12, 0, none⟩) := by rw [ha0]; rfl
    refine ChainL.step _ (g_loadT rfl 60 _ Try.underlying60 rfl (.tmp 12) rfl b12 0 (U2 (an * bd + bn * ad)) (U2_info _) (by simp (decide := true) only [ev_eq, ev_ne, ev_const, put_size, hsz, e5, e8, e12]) (fun w' hw' => range_below H8.out.2.2.2.1 H8.out.2.2.2.2.2 hw')) ?_
    refine ChainL.step _ (g_field rfl 107 2 3 (.tmp 5) rfl (w.heap.size + 1 + 1) 0 (by simp (decide := true) only [ev_eq, ev_ne, ev_const, put_size, hsz, e5, e8, e12]) fld107_2) ?_
    refine ChainL.step _ (g_load rfl (.tmp 45) rfl ⟨w.heap.size + 1 + 1, 0 + 3, none⟩ (.int .u64 cd) (by simp (decide := true) only [ev_eq, ev_ne, ev_const, put_size, hsz, e5, e8, e12]) (fun w' hw' => (HC.out w' hw').2.2.1.2)) ?_
    refine ChainL.step _ (g_call rfl 47 _ rfl rfl #[.agg (U2 (an * bd + bn * ad)), .int .u64 cd] (by simp (decide := true) [ev_eq, ev_ne, ev_const, put_size, hsz]) (cf47 _) _ (fun w' _ => wide3 (an * bd + bn * ad) cd HX.out.1 HW.out.1.2.2.2.2.2 w')) ?_
    refine ChainL.step _ (g_loadT rfl 60 _ Try.underlying60 rfl (.tmp 8) rfl b8 0 (U2 (ad * bd)) (U2_info _) (by simp (decide := true) only [ev_eq, ev_ne, ev_const, put_size, hsz, e5, e8, e12]) (fun w' hw' => range_below H8.out.2.2.1 H8.out.2.2.2.2.1 hw')) ?_
    refine ChainL.step _ (g_field rfl 107 2 3 (.tmp 5) rfl (w.heap.size + 1 + 1) 0 (by simp (decide := true) only [ev_eq, ev_ne, ev_const, put_size, hsz, e5, e8, e12]) fld107_2) ?_
    refine ChainL.step _ (g_load rfl (.tmp 49) rfl ⟨w.heap.size + 1 + 1, 0 + 3, none⟩ (.int .u64 cd) (by simp (decide := true) only [ev_eq, ev_ne, ev_const, put_size, hsz, e5, e8, e12]) (fun w' hw' => (HC.out w' hw').2.2.1.2)) ?_
    refine ChainL.step _ (g_field rfl 107 1 2 (.tmp 5) rfl (w.heap.size + 1 + 1) 0 (by simp (decide := true) only [ev_eq, ev_ne, ev_const, put_size, hsz, e5, e8, e12]) fld107_1) ?_
    refine ChainL.step _ (g_load rfl (.tmp 51) rfl ⟨w.heap.size + 1 + 1, 0 + 2, none⟩ (.int .u64 cn) (by simp (decide := true) only [ev_eq, ev_ne, ev_const, put_size, hsz, e5, e8, e12]) (fun w' hw' => (HC.out w' hw').2.2.1.1)) ?_
    refine ChainL.step _ (g_sub rfl (.tmp 50) (.tmp 52) rfl cd cn (by simp (decide := true) only [ev_eq, ev_ne, ev_const, put_size, hsz, e5, e8, e12]) (by simp (decide := true) only [ev_eq, ev_ne, ev_const, put_size, hsz, e5, e8, e12]) HWs.out) ?_
    refine ChainL.step _ (g_call rfl 47 _ rfl rfl #[.agg (U2 (ad * bd)), .int .u64 (cd - cn)] (by simp (decide := true) [ev_eq, ev_ne, ev_const, put_size, hsz]) (cf47 _) _ (fun w' _ => wide3 (ad * bd) (cd - cn) ⟨Int.le_of_lt HD.out.1.1, HD.out.1.2⟩ HWs.out w')) ?_
    refine ChainL.step _ (g_call rfl 48 _ rfl rfl #[.agg (U3 ((an * bd + bn * ad) * cd)), .agg (U3 (ad * bd * (cd - cn)))] (by simp (decide := true) [ev_eq, ev_ne, ev_const, put_size, hsz]) (cf48 _) _ (fun w' _ => cmp3 ((an * bd + bn * ad) * cd) (ad * bd * (cd - cn)) (prod3_lt HX.out.1 HW.out.1.2.2.2.2.2) (prod3_lt ⟨Int.le_of_lt HD.out.1.1, HD.out.1.2⟩ HWs.out) w')) ?_
    refine ChainL.done ?_
    intro w7 hS
    rw [ha0]
    simp only [Act.put, List.setIfInBounds_toArray, List.set_cons_succ, List.set_cons_zero]
    have H9 : Hid (Below w.heap.size w w7 ∧ w7.rangeAt b12 0 (U2 (an * bd + bn * ad)).toList ∧ b12 < w7.heap.size ∧ Env35 w.heap.size an ad bn bd cn cd w7) := ⟨H8.out.1.trans (hS.mono H8.out.1.size), range_below H8.out.2.2.2.1 H8.out.2.2.2.2.2 hS, by have := hS.size; have := H8.out.2.2.2.2.2; omega, HC.out w7 hS⟩
    clear hS ha0 hsz e5 e8 e12 a0 HC H8 W6
    rcases Int.lt_trichotomy ((an * bd + bn * ad) * cd) (ad * bd * (cd - cn)) with hc | hc | hc
    · have hcc : cmpI ((an * bd + bn * ad) * cd) (ad * bd * (cd - cn)) = -1 := by unfold cmpI; rw [if_neg (by omega), if_pos hc]
      have HK := (frac_core ⟨HW.out.1.1.1, HW.out.2.1⟩ ⟨HW.out.1.2.2.1.1, HW.out.2.2.1⟩ ⟨HW.out.1.2.2.2.2.1.1, HW.out.2.2.2⟩ (w := 0) (n := an * bd + bn * ad) (by omega) HX.out.2.1 HX.out.2.2).2.2 hc
      have HK : Hid _ := HK
      rw [hcc]
      clear hcc hc
      go_wp2_with fail
      by_cases hx0 : an * bd + bn * ad = 0
      · refine region_all73 (by kernel_rfl) ?_
        refine ChainL.frame ?_
        intro a0 ha0
        have hsz : a0.tmps.size = 73 := by rw [ha0]; rfl
        have e5 : a0.eval (.tmp 5) = .pointer (some ⟨w.heap.size + 1 + 1, 0, none⟩) := by rw [ha0]; rfl
        have e12 : a0.eval (.tmp 12) = .pointer (some ⟨b12, 0, none⟩) := by rw [ha0]; rfl
        have e6 : a0.eval (.tmp 6) = .int .u64 0 := by rw [ha0]; rfl
        refine ChainL.step (.int .u64 0) (g_move rfl (.tmp 6) rfl _ (by simp (decide := true) only [ev_eq, ev_ne, ev_const, put_size, hsz, e5, e12, e6])) ?_
        refine ChainL.step _ (g_loadT rfl 60 _ Try.underlying60 rfl (.tmp 12) rfl b12 0 (U2 (an * bd + bn * ad)) (U2_info _) (by simp (decide := true) only [ev_eq, ev_ne, ev_const, put_size, hsz, e5, e12, e6]) (fun w' hw' => range_below H9.out.2.1 H9.out.2.2.1 hw')) ?_
        refine ChainL.step _ (g_build60 rfl rfl) ?_
        refine ChainL.step (.bool false) ((show GrowIn Try.prog _ _ _ (.bool false) _ by (have hb : (!(((an * bd + bn * ad) / 18446744073709551616 % 18446744073709551616) == 0 && ((an * bd + bn * ad) % 18446744073709551616) == 0)) = false := by (rw [U2_nz HX.out.1]; simp [hx0])); rw [← hb]; exact g_neq60 rfl 65 66 rfl _ _ (by simp (decide := true) only [ev_eq, ev_ne, ev_const, put_size, hsz]; exact congrArg Value.agg (U2_def _)) (by simp (decide := true) only [ev_eq, ev_ne, ev_const, put_size, hsz, e5, e12, e6]))) ?_
        refine ChainL.step (.bool false) (g_move rfl (.tmp 67) rfl _ (by simp (decide := true) only [ev_eq, ev_ne, ev_const, put_size, hsz, e5, e12, e6])) ?_
        refine ChainL.step _ (h_field (by rw [wanted_some (g := 4) (bb := false) (b' := false) rfl rfl rfl (by simp (decide := true) only [put_size, hsz]) (by simp (decide := true) only [ev_eq, ev_ne, ev_const, put_size, hsz, e5, e12, e6])]; rfl) 107 1 2 (.tmp 5) rfl (w.heap.size + 1 + 1) 0 (by simp (decide := true) only [ev_eq, ev_ne, ev_const, put_size, hsz, e5, e12, e6]) fld107_1) ?_
        refine ChainL.step _ (h_load (by rw [wanted_some (g := 4) (bb := false) (b' := false) rfl rfl rfl (by simp (decide := true) only [put_size, hsz]) (by simp (decide := true) only [ev_eq, ev_ne, ev_const, put_size, hsz, e5, e12, e6])]; rfl) (.tmp 69) rfl ⟨w.heap.size + 1 + 1, 0 + 2, none⟩ (.int .u64 cn) (by simp (decide := true) only [ev_eq, ev_ne, ev_const, put_size, hsz, e5, e12, e6]) (fun w' hw' => (H9.out.2.2.2.mono hw' H9.out.2.2.2.2.2.2).2.2.1.1)) ?_
        refine ChainL.step _ (h_neq22 (by rw [wanted_some (g := 4) (bb := false) (b' := false) rfl rfl rfl (by simp (decide := true) only [put_size, hsz]) (by simp (decide := true) only [ev_eq, ev_ne, ev_const, put_size, hsz, e5, e12, e6])]; rfl) (.tmp 70) rfl cn (by simp (decide := true) only [ev_eq, ev_ne, ev_const, put_size, hsz, e5, e12, e6])) ?_
        refine ChainL.step _ (h_pick (wanted_none rfl) (.tmp 68) (.const (.bool true)) (.tmp 71) rfl false (.bool (!(cn == 0))) (by simp (decide := true) only [ev_eq, ev_ne, ev_const, put_size, hsz, e5, e12, e6]) (by simp (decide := true) only [ev_eq, ev_ne, ev_const, put_size, hsz, Bool.false_eq_true, if_false])) ?_
        refine ChainL.step (.int .u64 0) (g_assign rfl (.tmp 64) rfl _ (by simp (decide := true) only [ev_eq, ev_ne, ev_const, put_size, hsz, e5, e12, e6])) ?_
        refine ChainL.step (.bool (!(cn == 0))) (g_assign rfl (.tmp 72) rfl _ (by simp (decide := true) only [ev_eq, ev_ne, ev_const, put_size, hsz, e5, e12, e6])) ?_
        refine ChainL.done ?_
        intro w8 hS
        rw [ha0]
        simp only [Act.put, List.setIfInBounds_toArray, List.set_cons_succ, List.set_cons_zero]
        have HS : Hid (Below w.heap.size w w8) := H9.out.1.trans (hS.mono H9.out.1.size)
        have HF : Hid (IsFrac an ad bn bd cn cd 0 (!(cn == 0))) := HK.out _ (by simp [hx0])
        clear hS ha0 hsz e5 e12 e6 a0
        go_wp2_with fail
        go_returns
        exact ⟨⟨0, (!(cn == 0)), rfl, HF.out⟩, HS.out⟩
      · refine region_all73 (by kernel_rfl) ?_
        refine ChainL.frame ?_
        intro a0 ha0
        have hsz : a0.tmps.size = 73 := by rw [ha0]; rfl
        have e5 : a0.eval (.tmp 5) = .pointer (some ⟨w.heap.size + 1 + 1, 0, none⟩) := by rw [ha0]; rfl
        have e12 : a0.eval (.tmp 12) = .pointer (some ⟨b12, 0, none⟩) := by rw [ha0]; rfl
        have e6 : a0.eval (.tmp 6) = .int .u64 0 := by rw [ha0]; rfl
        refine ChainL.step (.int .u64 0) (g_move rfl (.tmp 6) rfl _ (by simp (decide := true) only [ev_eq, ev_ne, ev_const, put_size, hsz, e5, e12, e6])) ?_
        refine ChainL.step _ (g_loadT rfl 60 _ Try.underlying60 rfl (.tmp 12) rfl b12 0 (U2 (an * bd + bn * ad)) (U2_info _) (by simp (decide := true) only [ev_eq, ev_ne, ev_const, put_size, hsz, e5, e12, e6]) (fun w' hw' => range_below H9.out.2.1 H9.out.2.2.1 hw')) ?_
        refine ChainL.step _ (g_build60 rfl rfl) ?_
        refine ChainL.step (.bool true) ((show GrowIn Try.prog _ _ _ (.bool true) _ by (have hb : (!(((an * bd + bn * ad) / 18446744073709551616 % 18446744073709551616) == 0 && ((an * bd + bn * ad) % 18446744073709551616) == 0)) = true := by (rw [U2_nz HX.out.1]; simp [hx0])); rw [← hb]; exact g_neq60 rfl 65 66 rfl _ _ (by simp (decide := true) only [ev_eq, ev_ne, ev_const, put_size, hsz]; exact congrArg Value.agg (U2_def _)) (by simp (decide := true) only [ev_eq, ev_ne, ev_const, put_size, hsz, e5, e12, e6]))) ?_
        refine ChainL.step (.bool true) (g_move rfl (.tmp 67) rfl _ (by simp (decide := true) only [ev_eq, ev_ne, ev_const, put_size, hsz, e5, e12, e6])) ?_
        refine ChainL.step _ (h_skip (by rw [wanted_some (g := 4) (bb := false) (b' := true) rfl rfl rfl (by simp (decide := true) only [put_size, hsz]) (by simp (decide := true) only [ev_eq, ev_ne, ev_const, put_size, hsz, e5, e12, e6])]; rfl)) ?_
        refine ChainL.step _ (h_skip (by rw [wanted_some (g := 4) (bb := false) (b' := true) rfl rfl rfl (by simp (decide := true) only [put_size, hsz]) (by simp (decide := true) only [ev_eq, ev_ne, ev_const, put_size, hsz, e5, e12, e6])]; rfl)) ?_
        refine ChainL.step _ (h_skip (by rw [wanted_some (g := 4) (bb := false) (b' := true) rfl rfl rfl (by simp (decide := true) only [put_size, hsz]) (by simp (decide := true) only [ev_eq, ev_ne, ev_const, put_size, hsz, e5, e12, e6])]; rfl)) ?_
        refine ChainL.step _ (h_pick (wanted_none rfl) (.tmp 68) (.const (.bool true)) (.tmp 71) rfl true (.bool true) (by simp (decide := true) only [ev_eq, ev_ne, ev_const, put_size, hsz, e5, e12, e6]) rfl) ?_
        refine ChainL.step (.int .u64 0) (g_assign rfl (.tmp 64) rfl _ (by simp (decide := true) only [ev_eq, ev_ne, ev_const, put_size, hsz, e5, e12, e6])) ?_
        refine ChainL.step (.bool true) (g_assign rfl (.tmp 72) rfl _ (by simp (decide := true) only [ev_eq, ev_ne, ev_const, put_size, hsz, e5, e12, e6])) ?_
        refine ChainL.done ?_
        intro w8 hS
        rw [ha0]
        simp only [Act.put, List.setIfInBounds_toArray, List.set_cons_succ, List.set_cons_zero]
        have HS : Hid (Below w.heap.size w w8) := H9.out.1.trans (hS.mono H9.out.1.size)
        have HF : Hid (IsFrac an ad bn bd cn cd 0 true) := HK.out _ (by simp [hx0])
        clear hS ha0 hsz e5 e12 e6 a0
        go_wp2_with fail
        go_returns
        exact ⟨⟨0, true, rfl, HF.out⟩, HS.out⟩
    · have hcc : cmpI ((an * bd + bn * ad) * cd) (ad * bd * (cd - cn)) = 0 := by unfold cmpI; rw [if_pos hc]
      have HK : Hid (IsFrac an ad bn bd cn cd (0 + 1) false) := (frac_core ⟨HW.out.1.1.1, HW.out.2.1⟩ ⟨HW.out.1.2.2.1.1, HW.out.2.2.1⟩ ⟨HW.out.1.2.2.2.2.1.1, HW.out.2.2.2⟩ (w := 0) (n := an * bd + bn * ad) (by omega) HX.out.2.1 HX.out.2.2).2.1 hc.symm
      rw [hcc]
      clear hcc hc
      go_wp2_with fail
      go_returns
      exact ⟨⟨0 + 1, false, rfl, HK.out⟩, H9.out.1⟩
    · have hcc : cmpI ((an * bd + bn * ad) * cd) (ad * bd * (cd - cn)) = 1 := by unfold cmpI; rw [if_neg (by omega), if_neg (by omega)]
      have HK : Hid (IsFrac an ad bn bd cn cd (0 + 1) true) := (frac_core ⟨HW.out.1.1.1, HW.out.2.1⟩ ⟨HW.out.1.2.2.1.1, HW.out.2.2.1⟩ ⟨HW.out.1.2.2.2.2.1.1, HW.out.2.2.2⟩ (w := 0) (n := an * bd + bn * ad) (by omega) HX.out.2.1 HX.out.2.2).1 hc
      rw [hcc]
      clear hcc hc
      go_wp2_with fail
      go_returns
      exact ⟨⟨0 + 1, true, rfl, HK.out⟩, H9.out.1⟩
end Go.Proofs.Qxb6616476a
