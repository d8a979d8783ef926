import Derived.Test.Qxb6616476aOps4
namespace Go.Proofs.Qxb6616476a
open Go.RowKit Go.Lib
set_option linter.unusedSimpArgs false

theorem Try.size90 : (Try.prog.info? 90).map (·.size) = some 10 := by kernel_rfl
theorem Try.size96 : (Try.prog.info? 96).map (·.size) = some 30 := by kernel_rfl
theorem Try.size25 : (Try.prog.info? 25).map (·.size) = some 5 := by kernel_rfl
theorem Try.size69 : (Try.prog.info? 69).map (·.size) = some 8 := by kernel_rfl
theorem cf30 (args : Array Value) (w : World) : (callFunc 30 args).run Try.prog w = .ok (.enter 30 args) w := by
  simp [callFunc, go_sem, Try.func30, Try.f30]
theorem cf32 (args : Array Value) (w : World) : (callFunc 32 args).run Try.prog w = .ok (.enter 32 args) w := by
  simp [callFunc, go_sem, Try.func32, Try.f32]
theorem cf35 (args : Array Value) (w : World) : (callFunc 35 args).run Try.prog w = .ok (.enter 35 args) w := by
  simp [callFunc, go_sem, Try.func35, Try.f35]
theorem cf36 (args : Array Value) (w : World) : (callFunc 36 args).run Try.prog w = .ok (.enter 36 args) w := by
  simp [callFunc, go_sem, Try.func36, Try.f36]
section
variable {ops : Array Oper} {S : World → Prop} {a : Act} {o : Oper}
theorem z_gmove {g : Nat} {b0 : Bool} {og : Oper} {s : Nat} (hg : o.guard = some (g, true)) (ho' : ops[g]? = some og) (hd : og.dst = some s) (hs : s < a.tmps.size) (hv : a.eval (.tmp s) = .bool b0) (x : Operand) (ho : o.op = .move x) (v : Value) (hx : a.eval x = v) : YieldsIf Try.prog ops S o (if b0 = true then v else undef) a := by
  have hw := wanted_some (ops := ops) (a := a) hg ho' hd hs hv
  cases b0
  · exact Or.inr ⟨by rw [hw]; rfl, by simp⟩
  · exact z_move (by rw [hw]; rfl) x ho v hx
theorem z_pickand (hg : o.guard = none) (x y : Operand) (ho : o.op = .pick x y (.const (.bool false))) (b0 f : Bool) (hx : a.eval x = .bool b0) (hy : a.eval y = if b0 = true then .bool f else undef) : YieldsIf Try.prog ops S o (.bool (b0 && f)) a := by
  refine z_pick (wanted_none hg) x y (.const (.bool false)) ho b0 _ hx ?_
  cases b0
  · rfl
  · simpa using hy
end
/-- the fee's reckoning, dimension k -/
def rr (rh rl : Nat → Int) (k : Nat) : Int := V2 (rh (min k 3)) (rl (min k 3))
def x1 (rh rl A mu : Nat → Int) (k : Nat) : Int := rr rh rl k * (A k * mu k)
def y2 (rh rl A mu : Nat → Int) (P : Int) (k : Nat) : Int := (x1 rh rl A mu k * P) % 115792089237316195423570985008687907853269984665640564039457584007913129639936
def f1 (rh rl A mu : Nat → Int) (P : Int) (k : Nat) : Bool := decide (x1 rh rl A mu k * P < 115792089237316195423570985008687907853269984665640564039457584007913129639936)
def y3 (rh rl A mu : Nat → Int) (P F : Int) (folded : Bool) (k : Nat) : Int := if folded = true then y2 rh rl A mu P k else (y2 rh rl A mu P k * F) % 115792089237316195423570985008687907853269984665640564039457584007913129639936
def f2 (rh rl A mu : Nat → Int) (P F : Int) (folded : Bool) (k : Nat) : Bool := if folded = true then true else decide (y2 rh rl A mu P k * F < 115792089237316195423570985008687907853269984665640564039457584007913129639936)
def fitsTo (rh rl A mu : Nat → Int) (P F : Int) (folded : Bool) : Nat → Bool
  | 0 => true
  | k + 1 => (fitsTo rh rl A mu P F folded k && f1 rh rl A mu P k) && f2 rh rl A mu P F folded k
theorem y2_big (rh rl A mu : Nat → Int) (P : Int) (k : Nat) : Big (y2 rh rl A mu P k) := ⟨by unfold y2; omega, by unfold y2; omega⟩
theorem y3_big (rh rl A mu : Nat → Int) (P F : Int) (folded : Bool) (k : Nat) : Big (y3 rh rl A mu P F folded k) := by
  unfold y3
  split
  · exact y2_big _ _ _ _ _ _
  · exact ⟨by omega, by omega⟩
theorem big_div {x d : Int} (hx : Big x) (hd : 0 < d) : Big (x / d) := by
  obtain ⟨h1, h2⟩ := hx
  have : x / d ≤ x := Int.ediv_le_self _ h1
  exact ⟨Int.ediv_nonneg h1 (by omega), by omega⟩
/-- what lies in memory in the first loop -/
def Env17 (bc n b10 cb : Nat) (rh rl mu dv : Nat → Int) (P F : Int) (folded : Bool) (w : World) : Prop :=
  (∀ k, k < 5 → w.cell? ⟨bc, 18 + k * 2, none⟩ = some (.int .u64 (mu k)) ∧ w.cell? ⟨bc, 18 + k * 2 + 1, none⟩ = some (.int .u64 (dv k))) ∧ w.cell? ⟨bc, 12, none⟩ = some (.int .u64 F) ∧ w.cell? ⟨bc, 28, none⟩ = some (.bool folded) ∧ w.rangeAt n 0 (U2 P).toList ∧
  (∀ k, k < 5 → w.cell? ⟨b10, k * 2, none⟩ = some (.int .u64 (rh (min k 3))) ∧ w.cell? ⟨b10, k * 2 + 1, none⟩ = some (.int .u64 (rl (min k 3)))) ∧ (bc < cb ∧ n + 1 < cb ∧ b10 < cb) ∧ cb < w.heap.size
theorem Env17.mono {bc n b10 cb : Nat} {rh rl mu dv : Nat → Int} {P F : Int} {folded : Bool} {w w' : World} {B : Nat} (h : Env17 bc n b10 cb rh rl mu dv P F folded w) (hw : Below B w w') (hB : cb ≤ B) : Env17 bc n b10 cb rh rl mu dv P F folded w' := by
  obtain ⟨e1, e2, e3, e4, e5, ⟨s1, s2, s3⟩, s4⟩ := h
  have := hw.size
  refine ⟨fun k hk => ?_, ?_, ?_, range_below e4 (by omega) hw, fun k hk => ?_, ⟨s1, s2, s3⟩, by omega⟩
  · rw [hw.cell (p := ⟨bc, 18 + k * 2, none⟩) (by show bc < B; omega), hw.cell (p := ⟨bc, 18 + k * 2 + 1, none⟩) (by show bc < B; omega)]
    exact e1 k hk
  · rw [hw.cell (p := ⟨bc, 12, none⟩) (by show bc < B; omega)]; exact e2
  · rw [hw.cell (p := ⟨bc, 28, none⟩) (by show bc < B; omega)]; exact e3
  · rw [hw.cell (p := ⟨b10, k * 2, none⟩) (by show b10 < B; omega), hw.cell (p := ⟨b10, k * 2 + 1, none⟩) (by show b10 < B; omega)]
    exact e5 k hk
theorem there_sub6 {w : World} {b k : Nat} (h : w.there b 0 30) (hk : k < 5) : w.there b (k * 6) 6 := fun j hj => by
  have := h (k * 6 + j) (by omega)
  rw [Nat.zero_add] at this
  exact this
def LoopF (w : World) (bc b10 cb : Nat) (rh rl A mu dv : Nat → Int) (P F : Int) (folded : Bool) (k : Nat) (wx : World) : Prop :=
  Below w.heap.size w wx ∧ Env17 bc w.heap.size b10 cb rh rl mu dv P F folded wx ∧ wx.there cb 0 30 ∧ ∀ i, i < k → wx.rangeAt cb (i * 6) (U6 (y3 rh rl A mu P F folded i / dv i) (y3 rh rl A mu P F folded i % dv i) (dv i)).toList
theorem LoopF.mono {w : World} {bc b10 cb : Nat} {rh rl A mu dv : Nat → Int} {P F : Int} {folded : Bool} {k : Nat} {wx wx' : World} (h : LoopF w bc b10 cb rh rl A mu dv P F folded k wx) (hb : Below wx.heap.size wx wx') : LoopF w bc b10 cb rh rl A mu dv P F folded k wx' := by
  obtain ⟨a1, a2, a3, a4⟩ := h
  have hs := a2.2.2.2.2.2.2
  exact ⟨a1.trans (hb.mono a1.size), a2.mono hb (by omega), there_below a3 hs hb, fun i hi => range_below (a4 i hi) hs hb⟩
theorem LoopF.fresh {w : World} {bc b10 cb : Nat} {rh rl A mu dv : Nat → Int} {P F : Int} {folded : Bool} {k : Nat} {wx : World} (h : LoopF w bc b10 cb rh rl A mu dv P F folded k wx) {b : Nat} (hb : cb < b) (o : Nat) (vs : List Value) : LoopF w bc b10 cb rh rl A mu dv P F folded k (wx.setCells b o vs) := by
  obtain ⟨a1, a2, a3, a4⟩ := h
  have hs := a2.2.2.2.2.2
  refine ⟨below_setCells (by omega) _ _ _ a1, a2.mono (below_setCells (Nat.le_refl _) _ _ _ (Below.refl b wx)) (by omega), World.there_setCells a3 _ _ _, fun i hi => World.rangeAt_setCells_apart (a4 i hi) _ _ _ (Or.inl (by omega))⟩
theorem LoopF.putC {w : World} {bc b10 cb : Nat} {rh rl A mu dv : Nat → Int} {P F : Int} {folded : Bool} {k : Nat} {wx : World} (h : LoopF w bc b10 cb rh rl A mu dv P F folded k wx) (hk : k < 5) : LoopF w bc b10 cb rh rl A mu dv P F folded (k + 1) (wx.setCells cb (k * 6) (U6 (y3 rh rl A mu P F folded k / dv k) (y3 rh rl A mu P F folded k % dv k) (dv k)).toList) := by
  obtain ⟨a1, a2, a3, a4⟩ := h
  have hs := a2.2.2.2.2.2
  refine ⟨below_setCells (by omega) _ _ _ a1, a2.mono (below_setCells (Nat.le_refl _) _ _ _ (Below.refl cb wx)) (by omega), World.there_setCells a3 _ _ _, fun i hi => ?_⟩
  by_cases e : i = k
  · subst e
    exact World.rangeAt_setCells_same _ _ _ _ (by rw [Array.length_toList, U6_size]; exact there_sub6 a3 hk)
  · exact World.rangeAt_setCells_apart (a4 i (by omega)) _ _ _ (Or.inr (Or.inl (by rw [Array.length_toList, U6_size]; omega)))
end Go.Proofs.Qxb6616476a
