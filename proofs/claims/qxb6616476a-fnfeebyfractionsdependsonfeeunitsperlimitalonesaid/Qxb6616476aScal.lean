import Derived.Test.Qxb6616476aFeeC
namespace Go.Proofs.Qxb6616476a
open Go.RowKit Go.Lib
set_option linter.unusedSimpArgs false

/-- a row of five words -/
def R5 (w : World) (b : Nat) (f : Nat → Int) : Prop := w.rowIs b 25 5 (fun i => .int .u64 (f i))
theorem R5.cell {w : World} {b : Nat} {f : Nat → Int} (h : R5 w b f) {i : Nat} (hi : i < 5) : w.cell? ⟨b, i, none⟩ = some (.int .u64 (f i)) := World.rowIs.cell h hi
theorem R5.froz {w : World} {b : Nat} {f : Nat → Int} (h : R5 w b f) (i : Nat) : w.frozen? ⟨b, i, none⟩ = false := World.rowIs.frozen h i
theorem R5.set {w : World} {b : Nat} {f : Nat → Int} (h : R5 w b f) (i : Nat) (x : Int) : R5 (w.setCell ⟨b, i, none⟩ (.int .u64 x)) b (fun j => if j = i then x else f j) := by
  refine World.rowIs.congr (World.rowIs.set h i (.int .u64 x)) ?_
  intro j _
  by_cases e : j = i
  · simp [e]
  · simp [e]
theorem R5.other {w : World} {b : Nat} {f : Nat → Int} (h : R5 w b f) {a : Addr} (ha : b ≠ a.block) (v : Value) : R5 (w.setCell a v) b f := World.rowIs.setOther h ha v
theorem R5.alloc {w : World} {b : Nat} {f : Nat → Int} (h : R5 w b f) (o : Obj) : R5 (w.alloc o) b f := World.rowIs.alloc h o
theorem R5.drewN {w : World} {b : Nat} {f : Nat → Int} (h : R5 w b f) (n : Nat) : R5 (w.drewN n) b f := World.rowIs.of_block h rfl
theorem R5.new (w : World) (f : Nat → Int) : R5 (w.alloc (.cells #[.int .u64 (f 0), .int .u64 (f 1), .int .u64 (f 2), .int .u64 (f 3), .int .u64 (f 4)] 25)) w.heap.size f :=
  World.rowIs_alloc w #[.int .u64 (f 0), .int .u64 (f 1), .int .u64 (f 2), .int .u64 (f 3), .int .u64 (f 4)] 25 (fun i => .int .u64 (f i)) (fun i hi => by
    have hi : i < 5 := hi
    rcases (by omega : i = 0 ∨ i = 1 ∨ i = 2 ∨ i = 3 ∨ i = 4) with rfl | rfl | rfl | rfl | rfl <;> rfl)
theorem R5.up {w : World} {b : Nat} {f : Nat → Nat} (h : R5 w b (fun i => (f i : Int))) (i x : Nat) : R5 (w.setCell ⟨b, i, none⟩ (.int .u64 (x : Int))) b (fun j => ((if j = i then x else f j : Nat) : Int)) := by
  refine World.rowIs.congr (R5.set h i (x : Int)) ?_
  intro j _
  by_cases e : j = i
  · simp [e]
  · simp [e]
theorem R5.range {w : World} {b : Nat} {f : Nat → Int} (h : R5 w b f) : w.rangeAt b 0 [.int .u64 (f 0), .int .u64 (f 1), .int .u64 (f 2), .int .u64 (f 3), .int .u64 (f 4)] := fun j v hv => by
  have hj : j < 5 := (List.getElem?_eq_some_iff.1 hv).1
  rw [Nat.zero_add, h.cell hj, ← hv]
  rcases (by omega : j = 0 ∨ j = 1 ∨ j = 2 ∨ j = 3 ∨ j = 4) with rfl | rfl | rfl | rfl | rfl <;> rfl
theorem R5.there {w : World} {b : Nat} {f : Nat → Int} (h : R5 w b f) : w.there b 0 5 := fun j hj => by
  rw [Nat.zero_add, h.cell hj, h.froz]
  exact ⟨rfl, rfl⟩
def C5 (f : Nat → Int) : Array Value := #[.int .u64 (f 0), .int .u64 (f 1), .int .u64 (f 2), .int .u64 (f 3), .int .u64 (f 4)]
theorem C5_def (f : Nat → Int) : C5 f = #[.int .u64 (f 0), .int .u64 (f 1), .int .u64 (f 2), .int .u64 (f 3), .int .u64 (f 4)] := rfl
theorem C5_size (f : Nat → Int) : (C5 f).size = 5 := rfl
theorem C5_ones (f : Nat → Int) : (C5 f).all (·.oneCell') = true := by simp [C5, Value.oneCell']
theorem C5_info (f : Nat → Int) : (Try.prog.info? 25).map (·.size) = some (C5 f).size := by rw [C5_size]; exact Try.size25
theorem C5_info' (f : Nat → Int) : (Try.prog.info? 25).map (·.size) = some (C5 f).toList.length := by rw [Array.length_toList]; exact C5_info f
theorem R5.range5 {w : World} {b : Nat} {f : Nat → Int} (h : R5 w b f) : w.rangeAt b 0 (C5 f).toList := h.range
/-- what feeScales gives for one dimension -/
def IsScale (F l mu dv : Nat) (folded : Bool) : Prop := ∃ g, 0 < g ∧ 0 < dv ∧ l = g * dv ∧ (folded = true → F = g * mu ∧ mu * l < 18446744073709551616) ∧ (folded = false → mu = 1 ∧ g = 1)
theorem scale_gcd {F l : Nat} (hF : 0 < F) (hl : 0 < l) (h : F / Nat.gcd F l ≤ 18446744073709551615 / l) : IsScale F l (F / Nat.gcd F l) (l / Nat.gcd F l) true := by
  have hg : 0 < Nat.gcd F l := Nat.gcd_pos_of_pos_left _ hF
  have h1 : F = Nat.gcd F l * (F / Nat.gcd F l) := (Nat.mul_div_cancel' (Nat.gcd_dvd_left F l)).symm
  have h2 : l = Nat.gcd F l * (l / Nat.gcd F l) := (Nat.mul_div_cancel' (Nat.gcd_dvd_right F l)).symm
  refine ⟨Nat.gcd F l, hg, ?_, h2, fun _ => ⟨h1, ?_⟩, fun h => by cases h⟩
  · rcases Nat.eq_zero_or_pos (l / Nat.gcd F l) with h3 | h3
    · rw [h3, Nat.mul_zero] at h2; omega
    · exact h3
  · have h3 := Nat.mul_le_mul_right l h
    have h4 := Nat.div_mul_le_self 18446744073709551615 l
    omega
theorem scale_one {F l : Nat} (hl : 0 < l) : IsScale F l 1 l false := ⟨1, by omega, hl, by omega, (fun h => by cases h), (fun _ => ⟨rfl, rfl⟩)⟩

theorem ChainY.imp {P : Program} {ops : Array Oper} {S : World → Prop} {R R' : Act → Prop} (h : ∀ a, R a → R' a) : ∀ (l : List Oper) (a : Act), ChainY P ops S R l a → ChainY P ops S R' l a
  | [], a, hh => h a hh
  | _ :: l, _, ⟨v, h1, h2⟩ => ⟨v, h1, ChainY.imp h l _ h2⟩
theorem hQ_of2 {Q : Exit → Act → World → Prop} (h : ∀ (d : Nat) v c a w, Q (.panic c) (a.put (some d) v) w → Q (.panic c) a w) : ∀ d v c a w, Q (.panic c) (Act.put a d v) w → Q (.panic c) a w := fun d v c a w h' => by
  cases d with
  | none => exact h'
  | some d => exact h d v c a w h'
def y2B (ops : Array Oper) (m : Nat) : Bool := decide (ops.size = m + 3) && Region.noSelect ops && lexTo .any ops m 0 (Array.replicate ops.size false) && (Region.ready .any ops (Lm ops m) == [m]) && (Region.ready .any ops ((Lm ops m).setIfInBounds m true) == [m + 1]) && (Region.ready .any ops (((Lm ops m).setIfInBounds m true).setIfInBounds (m + 1) true) == [m + 2]) && (Region.ready .any ops ((((Lm ops m).setIfInBounds m true).setIfInBounds (m + 1) true).setIfInBounds (m + 2) true)).isEmpty
theorem region_y2 {Q : Exit → Act → World → Prop} {S : World → Prop} {l : List Oper} {id m : Nat} {a : Act} {wr : World} {oS oT oE : Oper} (T : TypeId) (x y x' y' z : Operand) (hB : y2B l.toArray m = true) (hlen : l.drop m = [oS, oT, oE]) (hS' : oS.op = .store T x y ∧ oS.guard = none ∧ oS.dst = none) (hT' : oT.op = .store T x' y' ∧ oT.guard = none ∧ oT.dst = none) (hE : oE.op = .assign z ∧ oE.guard = none)
    (hQ : ∀ d v c a w, Q (.panic c) (a.put d v) w → Q (.panic c) a w) (hS : S (wr.drewN 1))
    (h : ChainY Try.prog l.toArray S (fun a' => ∃ (b b' : Nat) (C C' : Array Value) (v : Value), a'.eval x = .pointer (some ⟨b, 0, none⟩) ∧ a'.eval x' = .pointer (some ⟨b', 0, none⟩) ∧ a'.eval y = .agg C ∧ a'.eval y' = .agg C' ∧ (Try.prog.info? T).map (·.size) = some C.size ∧ (Try.prog.info? T).map (·.size) = some C'.size ∧ C.all (·.oneCell') = true ∧ C'.all (·.oneCell') = true ∧ a'.eval z = v ∧ (wr.drewN 1).there b 0 C.size ∧ (wr.drewN 1).there b' 0 C'.size ∧ S ((wr.drewN 1).setCells b 0 C.toList) ∧ S (((wr.drewN 1).setCells b 0 C.toList).setCells b' 0 C'.toList) ∧ Q .normal (a'.put oE.dst v) (((wr.drewN 1).setCells b 0 C.toList).setCells b' 0 C'.toList)) (l.take m) a) : (Code.region id l.toArray true).wp Try.prog Q a wr := by
  have e : l.length = m + 3 := by
    have := congrArg List.length hlen
    simp at this
    omega
  have g : ∀ j, l[m + j]? = [oS, oT, oE][j]? := fun j => by rw [← hlen, List.getElem?_drop]
  have g0 : l.toArray[m]? = some oS := by simpa using g 0
  have g1 : l.toArray[m + 1]? = some oT := by simpa using g 1
  have g2 : l.toArray[m + 2]? = some oE := by simpa using g 2
  simp only [y2B, Bool.and_eq_true, decide_eq_true_eq, List.isEmpty_iff, beq_iff_eq] at hB
  obtain ⟨⟨⟨⟨⟨⟨b0, b1⟩, b2⟩, b3⟩, b4⟩, b5⟩, b6⟩ := hB
  refine wp_region_held (S := S) mixedT ?_
  have hl : (l.take m).length = m := by rw [List.length_take]; omega
  have := held_lex (P := Try.prog) (Q := Q) b1 hQ 3 (wr.drewN 1) hS (l.take m) 0 (Array.replicate l.toArray.size false) a (fun j hj => by
    rw [hl] at hj
    rw [List.getElem?_take_of_lt hj]
    simp) (by rw [hl]; exact b2) ?_
  · rw [hl] at this
    rw [b0] at this ⊢
    rw [Nat.add_comm m 3]
    rw [Nat.add_comm m 3] at this
    exact this
  · rw [hl]
    refine ChainY.imp ?_ _ _ h
    rintro a ⟨b, b', C, C', v, hx, hx', hy, hy', hi, hi', h1, h1', hz, ht, ht', hS2, hS3, hq⟩
    have w1 : ∀ (o' : Oper) (a' : Act), o'.guard = none → Region.wanted o' (yielded l.toArray a'.tmps) = true := fun o' a' hg => by simp [Region.wanted, hg]
    refine wpAnyH_all b3 (by simp) fun i hi2 => ?_
    have : i = m := by simpa using hi2
    subst this
    unfold wpOp
    simp only [g0, w1 oS _ hS'.2.1, if_true]
    refine .inl (wp_store_mid T x y hS'.1 b 0 C hx hy ht hi h1 ⟨hS2, ?_⟩)
    rw [hS'.2.2]
    refine wpAnyH_all b4 (by simp) fun i' hi2 => ?_
    have : i' = i + 1 := by simpa using hi2
    subst this
    unfold wpOp
    simp only [g1, w1 oT _ hT'.2.1, if_true]
    refine .inl (wp_store_mid T x' y' hT'.1 b' 0 C' hx' hy' (World.there_setCells ht' _ _ _) hi' h1' ⟨hS3, ?_⟩)
    rw [hT'.2.2]
    refine wpAnyH_all b5 (by simp) fun i' hi2 => ?_
    have : i' = i + 2 := by simpa using hi2
    subst this
    unfold wpOp
    simp only [g2, w1 oE _ hE.2, if_true]
    exact .inl (wp_assign z v hE.1 hz ⟨hS3, b6, hq⟩)
attribute [local irreducible] C5
set_option maxRecDepth 100000 in
set_option maxHeartbeats 4000000 in
theorem scales_any (l : Nat → Nat) (F : Nat) (hl : ∀ k, k < 5 → 0 < l k ∧ l k < 18446744073709551616) (hF : 0 < F ∧ F < 18446744073709551616) (w : World) :
    Calls Try.prog 8 #[.agg #[.int .u64 (l 0), .int .u64 (l 1), .int .u64 (l 2), .int .u64 (l 3), .int .u64 (l 4)], .int .u64 F] w fun e w' =>
      (∃ (mu dv : Nat → Nat) (folded : Bool), e = .returned (.tuple #[.agg #[.int .u64 (mu 0), .int .u64 (mu 1), .int .u64 (mu 2), .int .u64 (mu 3), .int .u64 (mu 4)], .agg #[.int .u64 (dv 0), .int .u64 (dv 1), .int .u64 (dv 2), .int .u64 (dv 3), .int .u64 (dv 4)], .bool folded]) ∧ ∀ k, k < 5 → IsScale F (l k) (mu k) (dv k) folded ∧ mu k < 18446744073709551616 ∧ dv k < 18446744073709551616) ∧ Below w.heap.size w w' := by
  have HH : Hid ((∀ k, k < 5 → 0 < l k ∧ l k < 18446744073709551616) ∧ 0 < F ∧ F < 18446744073709551616) := ⟨hl, hF⟩
  clear hl hF
  have HR : Hid (Below w.heap.size w (((((w.alloc (.cells #[.int .u64 (l 0 : Nat), .int .u64 (l 1 : Nat), .int .u64 (l 2 : Nat), .int .u64 (l 3 : Nat), .int .u64 (l 4 : Nat)] 25)).alloc (.cells #[.int .u64 0, .int .u64 0, .int .u64 0, .int .u64 0, .int .u64 0] 25)).alloc (.cells #[.int .u64 0, .int .u64 0, .int .u64 0, .int .u64 0, .int .u64 0] 25)).alloc (.cells #[.int .u64 0, .int .u64 0, .int .u64 0, .int .u64 0, .int .u64 0] 25)).alloc (.cells #[.int .u64 0, .int .u64 0, .int .u64 0, .int .u64 0, .int .u64 0] 25)) ∧ R5 (((((w.alloc (.cells #[.int .u64 (l 0 : Nat), .int .u64 (l 1 : Nat), .int .u64 (l 2 : Nat), .int .u64 (l 3 : Nat), .int .u64 (l 4 : Nat)] 25)).alloc (.cells #[.int .u64 0, .int .u64 0, .int .u64 0, .int .u64 0, .int .u64 0] 25)).alloc (.cells #[.int .u64 0, .int .u64 0, .int .u64 0, .int .u64 0, .int .u64 0] 25)).alloc (.cells #[.int .u64 0, .int .u64 0, .int .u64 0, .int .u64 0, .int .u64 0] 25)).alloc (.cells #[.int .u64 0, .int .u64 0, .int .u64 0, .int .u64 0, .int .u64 0] 25)) w.heap.size (fun i => (l i : Int)) ∧ R5 (((((w.alloc (.cells #[.int .u64 (l 0 : Nat), .int .u64 (l 1 : Nat), .int .u64 (l 2 : Nat), .int .u64 (l 3 : Nat), .int .u64 (l 4 : Nat)] 25)).alloc (.cells #[.int .u64 0, .int .u64 0, .int .u64 0, .int .u64 0, .int .u64 0] 25)).alloc (.cells #[.int .u64 0, .int .u64 0, .int .u64 0, .int .u64 0, .int .u64 0] 25)).alloc (.cells #[.int .u64 0, .int .u64 0, .int .u64 0, .int .u64 0, .int .u64 0] 25)).alloc (.cells #[.int .u64 0, .int .u64 0, .int .u64 0, .int .u64 0, .int .u64 0] 25)) (w.heap.size + 1) (fun _ => 0) ∧ R5 (((((w.alloc (.cells #[.int .u64 (l 0 : Nat), .int .u64 (l 1 : Nat), .int .u64 (l 2 : Nat), .int .u64 (l 3 : Nat), .int .u64 (l 4 : Nat)] 25)).alloc (.cells #[.int .u64 0, .int .u64 0, .int .u64 0, .int .u64 0, .int .u64 0] 25)).alloc (.cells #[.int .u64 0, .int .u64 0, .int .u64 0, .int .u64 0, .int .u64 0] 25)).alloc (.cells #[.int .u64 0, .int .u64 0, .int .u64 0, .int .u64 0, .int .u64 0] 25)).alloc (.cells #[.int .u64 0, .int .u64 0, .int .u64 0, .int .u64 0, .int .u64 0] 25)) (w.heap.size + 1 + 1) (fun _ => 0) ∧ R5 (((((w.alloc (.cells #[.int .u64 (l 0 : Nat), .int .u64 (l 1 : Nat), .int .u64 (l 2 : Nat), .int .u64 (l 3 : Nat), .int .u64 (l 4 : Nat)] 25)).alloc (.cells #[.int .u64 0, .int .u64 0, .int .u64 0, .int .u64 0, .int .u64 0] 25)).alloc (.cells #[.int .u64 0, .int .u64 0, .int .u64 0, .int .u64 0, .int .u64 0] 25)).alloc (.cells #[.int .u64 0, .int .u64 0, .int .u64 0, .int .u64 0, .int .u64 0] 25)).alloc (.cells #[.int .u64 0, .int .u64 0, .int .u64 0, .int .u64 0, .int .u64 0] 25)) (w.heap.size + 1 + 1 + 1) (fun _ => ((0 : Nat) : Int)) ∧ R5 (((((w.alloc (.cells #[.int .u64 (l 0 : Nat), .int .u64 (l 1 : Nat), .int .u64 (l 2 : Nat), .int .u64 (l 3 : Nat), .int .u64 (l 4 : Nat)] 25)).alloc (.cells #[.int .u64 0, .int .u64 0, .int .u64 0, .int .u64 0, .int .u64 0] 25)).alloc (.cells #[.int .u64 0, .int .u64 0, .int .u64 0, .int .u64 0, .int .u64 0] 25)).alloc (.cells #[.int .u64 0, .int .u64 0, .int .u64 0, .int .u64 0, .int .u64 0] 25)).alloc (.cells #[.int .u64 0, .int .u64 0, .int .u64 0, .int .u64 0, .int .u64 0] 25)) (w.heap.size + 1 + 1 + 1 + 1) (fun _ => ((0 : Nat) : Int))) := by
    have k0 := R5.new w (fun i => (l i : Int))
    have k1 := R5.new (w.alloc (.cells #[.int .u64 (l 0 : Nat), .int .u64 (l 1 : Nat), .int .u64 (l 2 : Nat), .int .u64 (l 3 : Nat), .int .u64 (l 4 : Nat)] 25)) (fun _ => 0)
    have k2 := R5.new ((w.alloc (.cells #[.int .u64 (l 0 : Nat), .int .u64 (l 1 : Nat), .int .u64 (l 2 : Nat), .int .u64 (l 3 : Nat), .int .u64 (l 4 : Nat)] 25)).alloc (.cells #[.int .u64 0, .int .u64 0, .int .u64 0, .int .u64 0, .int .u64 0] 25)) (fun _ => 0)
    have k3 := R5.new (((w.alloc (.cells #[.int .u64 (l 0 : Nat), .int .u64 (l 1 : Nat), .int .u64 (l 2 : Nat), .int .u64 (l 3 : Nat), .int .u64 (l 4 : Nat)] 25)).alloc (.cells #[.int .u64 0, .int .u64 0, .int .u64 0, .int .u64 0, .int .u64 0] 25)).alloc (.cells #[.int .u64 0, .int .u64 0, .int .u64 0, .int .u64 0, .int .u64 0] 25)) (fun _ => ((0 : Nat) : Int))
    have k4 := R5.new ((((w.alloc (.cells #[.int .u64 (l 0 : Nat), .int .u64 (l 1 : Nat), .int .u64 (l 2 : Nat), .int .u64 (l 3 : Nat), .int .u64 (l 4 : Nat)] 25)).alloc (.cells #[.int .u64 0, .int .u64 0, .int .u64 0, .int .u64 0, .int .u64 0] 25)).alloc (.cells #[.int .u64 0, .int .u64 0, .int .u64 0, .int .u64 0, .int .u64 0] 25)).alloc (.cells #[.int .u64 0, .int .u64 0, .int .u64 0, .int .u64 0, .int .u64 0] 25)) (fun _ => ((0 : Nat) : Int))
    simp only [World.size_alloc] at k1 k2 k3 k4
    exact ⟨by go_grown, (((k0.alloc _).alloc _).alloc _).alloc _, ((k1.alloc _).alloc _).alloc _, (k2.alloc _).alloc _, k3.alloc _, k4⟩
  go_enter Try.func8, Try.ntmps8
  go_wp2_with fail
  generalize (((((w.alloc (.cells #[.int .u64 (l 0 : Nat), .int .u64 (l 1 : Nat), .int .u64 (l 2 : Nat), .int .u64 (l 3 : Nat), .int .u64 (l 4 : Nat)] 25)).alloc (.cells #[.int .u64 0, .int .u64 0, .int .u64 0, .int .u64 0, .int .u64 0] 25)).alloc (.cells #[.int .u64 0, .int .u64 0, .int .u64 0, .int .u64 0, .int .u64 0] 25)).alloc (.cells #[.int .u64 0, .int .u64 0, .int .u64 0, .int .u64 0, .int .u64 0] 25)).alloc (.cells #[.int .u64 0, .int .u64 0, .int .u64 0, .int .u64 0, .int .u64 0] 25)) = W at *
  go_loopw [9, 10] (fun v9 v10 wx => ∃ (k : Nat) (ff : Bool) (mu dv : Nat → Nat), v10 = .int .i64 k ∧ v9 = .bool ff ∧ k ≤ 5 ∧ Hid ((Below w.heap.size w wx ∧ R5 wx w.heap.size (fun i => (l i : Int)) ∧ R5 wx (w.heap.size + 1) (fun _ => 0) ∧ R5 wx (w.heap.size + 1 + 1) (fun _ => 0) ∧ R5 wx (w.heap.size + 1 + 1 + 1) (fun i => (mu i : Int)) ∧ R5 wx (w.heap.size + 1 + 1 + 1 + 1) (fun i => (dv i : Int))) ∧ ∀ i, i < k → mu i = F / Nat.gcd F (l i) ∧ dv i = l i / Nat.gcd F (l i) ∧ (ff = true → mu i ≤ 18446744073709551615 / l i))) (fun _ v10 _ => 5 - (RowKit.intOf v10).toNat)
  case atStart => exact ⟨0, true, fun _ => 0, fun _ => 0, rfl, rfl, by omega, HR.out, fun i hi => by omega⟩
  case round =>
    clear HR
    obtain ⟨k, ff, mu, dv, rfl, rfl, hk, HI⟩ := hrel
    by_cases hlt : k < 5
    · have hlt' : (k : Int) < 5 := by omega
      have h40 : (0 : Int) ≤ (k : Int) := by omega
      have c0 := HI.out.1.2.1.cell hlt
      go_wp2_with fail
      refine (gcd_any F (l k) _).mono ?_
      rintro e w1 ⟨rfl, n1, hw1⟩
      have hg : 0 < Nat.gcd F (l k) := Nat.gcd_pos_of_pos_left _ HH.out.2.1
      obtain ⟨G, hG⟩ : ∃ G, G = Nat.gcd F (l k) := ⟨_, rfl⟩
      obtain ⟨m, hm⟩ : ∃ m, m = F / G := ⟨_, rfl⟩
      obtain ⟨d, hd⟩ : ∃ d, d = l k / G := ⟨_, rfl⟩
      obtain ⟨q, hq⟩ : ∃ q, q = 18446744073709551615 / l k := ⟨_, rfl⟩
      rw [← hG] at hg ⊢
      have hm' : m ≤ F := by rw [hm]; exact Nat.div_le_self _ _
      have hd' : d ≤ l k := by rw [hd]; exact Nat.div_le_self _ _
      have hlk := HH.out.1 k hlt
      have hF2 := HH.out.2.2
      have g0 : ¬ (G : Int) = 0 := by omega
      have l0 : ¬ ((l k : Nat) : Int) = 0 := by omega
      have t1 : (F : Int).tdiv (G : Int) = (m : Int) := by rw [hm]; rfl
      have t2 : ((l k : Nat) : Int).tdiv (G : Int) = (d : Int) := by rw [hd]; rfl
      have t3 : (18446744073709551615 : Int).tdiv ((l k : Nat) : Int) = (q : Int) := by rw [hq]; rfl
      have u1 : (F : Int) / (G : Int) = (m : Int) := by rw [hm]; exact (Int.natCast_ediv _ _).symm
      have u2 : ((l k : Nat) : Int) / (G : Int) = (d : Int) := by rw [hd]; exact (Int.natCast_ediv _ _).symm
      have u3 : (18446744073709551615 : Int) / ((l k : Nat) : Int) = (q : Int) := by rw [hq]; exact (Int.natCast_ediv 18446744073709551615 (l k)).symm
      have v1 : IntKind.u64.wrap (m : Int) = m := by rw [IntKind.wrap_u64]; omega
      have v2 : IntKind.u64.wrap (d : Int) = d := by rw [IntKind.wrap_u64]; omega
      have v3 : IntKind.u64.wrap (q : Int) = q := by
        have : q ≤ 18446744073709551615 := by rw [hq]; exact Nat.div_le_self _ _
        rw [IntKind.wrap_u64]; omega
      have HD : Hid (m = F / Nat.gcd F (l k) ∧ d = l k / Nat.gcd F (l k) ∧ q = 18446744073709551615 / l k) := ⟨by rw [hm, hG], by rw [hd, hG], hq⟩
      have HI1 : Hid ((Below w.heap.size w w1 ∧ R5 w1 w.heap.size (fun i => (l i : Int)) ∧ R5 w1 (w.heap.size + 1) (fun _ => 0) ∧ R5 w1 (w.heap.size + 1 + 1) (fun _ => 0) ∧ R5 w1 (w.heap.size + 1 + 1 + 1) (fun i => (mu i : Int)) ∧ R5 w1 (w.heap.size + 1 + 1 + 1 + 1) (fun i => (dv i : Int))) ∧ ∀ i, i < k → mu i = F / Nat.gcd F (l i) ∧ dv i = l i / Nat.gcd F (l i) ∧ (ff = true → mu i ≤ 18446744073709551615 / l i)) := by
        obtain ⟨⟨a1, a2, a3, a4, a5, a6⟩, a7⟩ := HI.out
        rw [hw1]
        exact ⟨⟨below_drewN a1 _, a2.drewN _, a3.drewN _, a4.drewN _, a5.drewN _, a6.drewN _⟩, a7⟩
      clear hG hm hd hq hw1 hm' hd' HI c0 hlk hF2
      have c0 := HI1.out.1.2.1.cell hlt
      have c3 := HI1.out.1.2.2.2.2.1.cell hlt
      have c4 := HI1.out.1.2.2.2.2.2.cell hlt
      have f3 := HI1.out.1.2.2.2.2.1.froz k
      have f4 := HI1.out.1.2.2.2.2.2.froz k
      generalize hlk : ((l k : Nat) : Int) = L at *
      by_cases hgt : q < m
      · have hgt' : (q : Int) < (m : Int) := by omega
        go_wp2_with fail
        go_quiet (fail)
        go_wp2_with fail
        go_roundw
        case rel =>
          obtain ⟨⟨a1, a2, a3, a4, a5, a6⟩, a7⟩ := HI1.out
          refine ⟨k + 1, false, fun j => if j = k then m else mu j, fun j => if j = k then d else dv j, rfl, rfl, by omega, ⟨below_drewN ((a1.setCell (p := ⟨w.heap.size + 1 + 1 + 1, k, none⟩) (by simp; try omega) _).setCell (p := ⟨w.heap.size + 1 + 1 + 1 + 1, k, none⟩) (by simp; try omega) _) _, ((a2.other (by simp; try omega) _).other (by simp; try omega) _).drewN _, ((a3.other (by simp; try omega) _).other (by simp; try omega) _).drewN _, ((a4.other (by simp) _).other (by simp; try omega) _).drewN _, ((a5.up k m).other (by simp) _).drewN _, ((a6.other (by simp) _).up k d).drewN _⟩, fun i hi => ?_⟩
          by_cases e : i = k
          · subst e
            simp only [if_true]
            exact ⟨HD.out.1, HD.out.2.1, fun h => by cases h⟩
          · simp only [if_neg e]
            obtain ⟨x1, x2, x3⟩ := a7 i (by omega)
            exact ⟨x1, x2, fun h => by cases h⟩
        case measure => simp [RowKit.intOf]; omega
      · have hgt' : ¬ (q : Int) < (m : Int) := by omega
        go_wp2_with fail
        go_quiet (fail)
        go_wp2_with fail
        go_roundw
        case rel =>
          obtain ⟨⟨a1, a2, a3, a4, a5, a6⟩, a7⟩ := HI1.out
          refine ⟨k + 1, ff, fun j => if j = k then m else mu j, fun j => if j = k then d else dv j, rfl, rfl, by omega, ⟨below_drewN ((a1.setCell (p := ⟨w.heap.size + 1 + 1 + 1, k, none⟩) (by simp; try omega) _).setCell (p := ⟨w.heap.size + 1 + 1 + 1 + 1, k, none⟩) (by simp; try omega) _) _, ((a2.other (by simp; try omega) _).other (by simp; try omega) _).drewN _, ((a3.other (by simp; try omega) _).other (by simp; try omega) _).drewN _, ((a4.other (by simp) _).other (by simp; try omega) _).drewN _, ((a5.up k m).other (by simp) _).drewN _, ((a6.other (by simp) _).up k d).drewN _⟩, fun i hi => ?_⟩
          by_cases e : i = k
          · subst e
            simp only [if_true]
            exact ⟨HD.out.1, HD.out.2.1, fun _ => by rw [← HD.out.2.2]; omega⟩
          · simp only [if_neg e]
            obtain ⟨x1, x2, x3⟩ := a7 i (by omega)
            exact ⟨x1, x2, x3⟩
        case measure => simp [RowKit.intOf]; omega
    · have hk5 : k = 5 := by omega
      subst hk5
      cases ff with
      | true =>
        have HR5 : Hid (Below w.heap.size w wr ∧ R5 wr w.heap.size (fun i => (l i : Int)) ∧ R5 wr (w.heap.size + 1) (fun _ => 0) ∧ R5 wr (w.heap.size + 1 + 1) (fun _ => 0) ∧ R5 wr (w.heap.size + 1 + 1 + 1) (fun i => (mu i : Int)) ∧ R5 wr (w.heap.size + 1 + 1 + 1 + 1) (fun i => (dv i : Int))) := HI.out.1
        have HSC : Hid (∀ k, k < 5 → IsScale F (l k) (mu k) (dv k) true ∧ mu k < 18446744073709551616 ∧ dv k < 18446744073709551616) := fun k hk => by
          obtain ⟨x1, x2, x3⟩ := HI.out.2 k hk
          have h1 := HH.out.1 k hk
          have h2 := HH.out.2
          have h3 := x3 rfl
          have y1 : mu k ≤ F := by rw [x1]; exact Nat.div_le_self _ _
          have y2 : dv k ≤ l k := by rw [x2]; exact Nat.div_le_self _ _
          refine ⟨?_, by omega, by omega⟩
          rw [x1] at h3
          rw [x1, x2]
          exact scale_gcd h2.1 h1.1 h3
        go_wp2_with fail
        refine region_y2 (m := 3) (S := fun w' => w'.rangeAt (w.heap.size + 1 + 1 + 1) 0 (C5 (fun i => (mu i : Int))).toList ∧ w'.rangeAt (w.heap.size + 1 + 1 + 1 + 1) 0 (C5 (fun i => (dv i : Int))).toList) 25 (.tmp 4) (.tmp 55) (.tmp 5) (.tmp 56) (.tmp 57) (by kernel_rfl) rfl ⟨rfl, rfl, rfl⟩ ⟨rfl, rfl, rfl⟩ ⟨rfl, rfl⟩ (hQ_of2 fun _ _ _ _ _ h => h) ⟨HR5.out.2.2.2.2.1.range5, HR5.out.2.2.2.2.2.range5⟩ ?_
        simp only [List.take_succ_cons, List.take_zero]
        refine ChainY.frame ?_
        intro a0 ha0
        have hsz : a0.tmps.size = 58 := by rw [ha0]; rfl
        have e7 : a0.eval (.tmp 7) = .pointer (some ⟨w.heap.size + 1 + 1 + 1, 0, none⟩) := by rw [ha0]; rfl
        have e8 : a0.eval (.tmp 8) = .pointer (some ⟨w.heap.size + 1 + 1 + 1 + 1, 0, none⟩) := by rw [ha0]; rfl
        have e4 : a0.eval (.tmp 4) = .pointer (some ⟨w.heap.size + 1, 0, none⟩) := by rw [ha0]; rfl
        have e5 : a0.eval (.tmp 5) = .pointer (some ⟨w.heap.size + 1 + 1, 0, none⟩) := by rw [ha0]; rfl
        have e9 : a0.eval (.tmp 9) = .bool true := by rw [ha0]; rfl
        refine ChainY.step _ (y_loadT rfl 25 _ Try.underlying25 rfl (.tmp 7) rfl (w.heap.size + 1 + 1 + 1) 0 (C5 (fun i => (mu i : Int))) (C5_info _) (by simp (decide := true) only [ev_eq, ev_ne, ev_const, put_size, hsz, e7, e8, e9, e4, e5]) (fun w' hw' => hw'.1)) ?_
        refine ChainY.step _ (y_loadT rfl 25 _ Try.underlying25 rfl (.tmp 8) rfl (w.heap.size + 1 + 1 + 1 + 1) 0 (C5 (fun i => (dv i : Int))) (C5_info _) (by simp (decide := true) only [ev_eq, ev_ne, ev_const, put_size, hsz, e7, e8, e9, e4, e5]) (fun w' hw' => hw'.2)) ?_
        refine ChainY.step (.bool true) (y_move rfl (.tmp 9) rfl _ (by simp (decide := true) only [ev_eq, ev_ne, ev_const, put_size, hsz, e7, e8, e9, e4, e5])) ?_
        refine ChainY.done ⟨w.heap.size + 1, w.heap.size + 1 + 1, C5 (fun i => (mu i : Int)), C5 (fun i => (dv i : Int)), .bool true, (by simp (decide := true) only [ev_eq, ev_ne, ev_const, put_size, hsz, e7, e8, e9, e4, e5]), (by simp (decide := true) only [ev_eq, ev_ne, ev_const, put_size, hsz, e7, e8, e9, e4, e5]), (by simp (decide := true) only [ev_eq, ev_ne, ev_const, put_size, hsz, e7, e8, e9, e4, e5]), (by simp (decide := true) only [ev_eq, ev_ne, ev_const, put_size, hsz, e7, e8, e9, e4, e5]), C5_info _, C5_info _, C5_ones _, C5_ones _, (by simp (decide := true) only [ev_eq, ev_ne, ev_const, put_size, hsz, e7, e8, e9, e4, e5]), ?_, ?_, ?_, ?_, ?_⟩
        · rw [C5_size]; exact HR5.out.2.2.1.there
        · rw [C5_size]; exact HR5.out.2.2.2.1.there
        · exact ⟨World.rangeAt_setCells_apart (w := wr.drewN 1) HR5.out.2.2.2.2.1.range5 _ _ _ (Or.inl (by omega)), World.rangeAt_setCells_apart (w := wr.drewN 1) HR5.out.2.2.2.2.2.range5 _ _ _ (Or.inl (by omega))⟩
        · exact ⟨World.rangeAt_setCells_apart (World.rangeAt_setCells_apart (w := wr.drewN 1) HR5.out.2.2.2.2.1.range5 _ _ _ (Or.inl (by omega))) _ _ _ (Or.inl (by omega)), World.rangeAt_setCells_apart (World.rangeAt_setCells_apart (w := wr.drewN 1) HR5.out.2.2.2.2.2.range5 _ _ _ (Or.inl (by omega))) _ _ _ (Or.inl (by omega))⟩
        rw [ha0]
        simp only [Act.put, List.setIfInBounds_toArray, List.set_cons_succ, List.set_cons_zero]
        have HWF : Hid ((((wr.drewN 1).setCells (w.heap.size + 1) 0 (C5 (fun i => (mu i : Int))).toList).setCells (w.heap.size + 1 + 1) 0 (C5 (fun i => (dv i : Int))).toList).rangeAt (w.heap.size + 1) 0 (C5 (fun i => (mu i : Int))).toList ∧ (((wr.drewN 1).setCells (w.heap.size + 1) 0 (C5 (fun i => (mu i : Int))).toList).setCells (w.heap.size + 1 + 1) 0 (C5 (fun i => (dv i : Int))).toList).rangeAt (w.heap.size + 1 + 1) 0 (C5 (fun i => (dv i : Int))).toList ∧ Below w.heap.size w (((wr.drewN 1).setCells (w.heap.size + 1) 0 (C5 (fun i => (mu i : Int))).toList).setCells (w.heap.size + 1 + 1) 0 (C5 (fun i => (dv i : Int))).toList)) := by
          have t1 : (wr.drewN 1).there (w.heap.size + 1) 0 5 := HR5.out.2.2.1.there
          have t2 : (wr.drewN 1).there (w.heap.size + 1 + 1) 0 5 := HR5.out.2.2.2.1.there
          have bb : Below w.heap.size w (wr.drewN 1) := below_drewN HR5.out.1 1
          exact ⟨World.rangeAt_setCells_apart (World.rangeAt_setCells_same _ _ _ _ (by rw [Array.length_toList, C5_size]; exact t1)) _ _ _ (Or.inl (by omega)), World.rangeAt_setCells_same _ _ _ _ (by rw [Array.length_toList, C5_size]; exact World.there_setCells t2 _ _ _), below_setCells (by omega) _ _ _ (below_setCells (by omega) _ _ _ bb)⟩
        generalize ((wr.drewN 1).setCells (w.heap.size + 1) 0 (C5 (fun i => (mu i : Int))).toList).setCells (w.heap.size + 1 + 1) 0 (C5 (fun i => (dv i : Int))).toList = WE at *
        clear ha0 hsz e7 e8 e4 e5 e9 a0
        go_wp2_with fail
        have hL1 : (loadVar 25 ⟨w.heap.size + 1, 0, none⟩).run Try.prog WE = .ok (.agg (C5 (fun i => (mu i : Int)))) WE := by
          have h := run_loadVar_mid (P := Try.prog) WE (w.heap.size + 1) 0 25 (C5 (fun i => (mu i : Int))).toList _ HWF.out.1 Try.underlying25 rfl (C5_info' _)
          rw [Array.toArray_toList] at h
          exact h
        have hL2 : (loadVar 25 ⟨w.heap.size + 1 + 1, 0, none⟩).run Try.prog WE = .ok (.agg (C5 (fun i => (dv i : Int)))) WE := by
          have h := run_loadVar_mid (P := Try.prog) WE (w.heap.size + 1 + 1) 0 25 (C5 (fun i => (dv i : Int))).toList _ HWF.out.2.1 Try.underlying25 rfl (C5_info' _)
          rw [Array.toArray_toList] at h
          exact h
        have hA : ∀ (a : Addr) (w : World), Sem.run Try.prog (asAddr (.pointer (some a))) w = .ok a w := fun _ _ => rfl
        simp [bodyPost, results, Try.results8, hA, hL1, hL2]
        exact ⟨⟨mu, dv, ⟨C5_def _, C5_def _⟩, HSC.out⟩, HWF.out.2.2⟩
      | false =>
        have HR6 : Hid (Below w.heap.size w wr ∧ R5 wr w.heap.size (fun i => (l i : Int)) ∧ R5 wr (w.heap.size + 1) (fun _ => 0) ∧ R5 wr (w.heap.size + 1 + 1) (fun _ => 0) ∧ R5 wr (w.heap.size + 1 + 1 + 1) (fun i => (mu i : Int)) ∧ R5 wr (w.heap.size + 1 + 1 + 1 + 1) (fun i => (dv i : Int))) := HI.out.1
        go_wp2_with fail
        clear HI hlt hk
        obtain ⟨wo, hwo⟩ : ∃ wo : World, wo = wr := ⟨_, rfl⟩
        rw [← hwo] at HR6 ⊢
        clear hwo
        go_loopw [12] (fun v12 wx => ∃ (k : Nat) (mu dv : Nat → Nat), v12 = .int .i64 k ∧ k ≤ 5 ∧ Hid ((Below w.heap.size w wx ∧ R5 wx w.heap.size (fun i => (l i : Int)) ∧ R5 wx (w.heap.size + 1) (fun _ => 0) ∧ R5 wx (w.heap.size + 1 + 1) (fun _ => 0) ∧ R5 wx (w.heap.size + 1 + 1 + 1) (fun i => (mu i : Int)) ∧ R5 wx (w.heap.size + 1 + 1 + 1 + 1) (fun i => (dv i : Int))) ∧ ∀ i, i < k → mu i = 1 ∧ dv i = l i)) (fun v12 _ => 5 - (RowKit.intOf v12).toNat)
        case atStart => exact ⟨0, mu, dv, rfl, by omega, HR6.out, fun i hi => by omega⟩
        case round =>
          clear HR6
          obtain ⟨k, mu, dv, rfl, hk, HI⟩ := hrel
          by_cases hlt : k < 5
          · have hlt' : (k : Int) < 5 := by omega
            have h40 : (0 : Int) ≤ (k : Int) := by omega
            have c0 := HI.out.1.2.1.cell hlt
            have c3 := HI.out.1.2.2.2.2.1.cell hlt
            have c4 := HI.out.1.2.2.2.2.2.cell hlt
            have f3 := HI.out.1.2.2.2.2.1.froz k
            have f4 := HI.out.1.2.2.2.2.2.froz k
            go_wp2_with fail
            go_roundw
            case rel =>
              obtain ⟨⟨a1, a2, a3, a4, a5, a6⟩, a7⟩ := HI.out
              refine ⟨k + 1, fun j => if j = k then 1 else mu j, fun j => if j = k then l k else dv j, rfl, by omega, ⟨(a1.setCell (p := ⟨w.heap.size + 1 + 1 + 1, k, none⟩) (by simp; try omega) _).setCell (p := ⟨w.heap.size + 1 + 1 + 1 + 1, k, none⟩) (by simp; try omega) _, (a2.other (by simp; try omega) _).other (by simp; try omega) _, (a3.other (by simp; try omega) _).other (by simp; try omega) _, (a4.other (by simp; try omega) _).other (by simp; try omega) _, (a5.up k 1).other (by simp; try omega) _, (a6.other (by simp; try omega) _).up k (l k)⟩, fun i hi => ?_⟩
              by_cases e : i = k
              · subst e
                simp
              · simp only [if_neg e]
                exact a7 i (by omega)
            case measure => simp [RowKit.intOf]; omega
          · have hk5 : k = 5 := by omega
            subst hk5
            have HR5 : Hid (Below w.heap.size w wr ∧ R5 wr w.heap.size (fun i => (l i : Int)) ∧ R5 wr (w.heap.size + 1) (fun _ => 0) ∧ R5 wr (w.heap.size + 1 + 1) (fun _ => 0) ∧ R5 wr (w.heap.size + 1 + 1 + 1) (fun i => (mu i : Int)) ∧ R5 wr (w.heap.size + 1 + 1 + 1 + 1) (fun i => (dv i : Int))) := HI.out.1
            have HSC : Hid (∀ k, k < 5 → IsScale F (l k) (mu k) (dv k) false ∧ mu k < 18446744073709551616 ∧ dv k < 18446744073709551616) := fun k hk => by
              obtain ⟨x1, x2⟩ := HI.out.2 k hk
              have h1 := HH.out.1 k hk
              rw [x1, x2]
              exact ⟨scale_one h1.1, by omega, h1.2⟩
            go_wp2_with fail
            refine region_y2 (m := 3) (S := fun w' => w'.rangeAt (w.heap.size + 1 + 1 + 1) 0 (C5 (fun i => (mu i : Int))).toList ∧ w'.rangeAt (w.heap.size + 1 + 1 + 1 + 1) 0 (C5 (fun i => (dv i : Int))).toList) 25 (.tmp 4) (.tmp 55) (.tmp 5) (.tmp 56) (.tmp 57) (by kernel_rfl) rfl ⟨rfl, rfl, rfl⟩ ⟨rfl, rfl, rfl⟩ ⟨rfl, rfl⟩ (hQ_of2 fun _ _ _ _ _ h => h) ⟨HR5.out.2.2.2.2.1.range5, HR5.out.2.2.2.2.2.range5⟩ ?_
            simp only [List.take_succ_cons, List.take_zero]
            refine ChainY.frame ?_
            intro a0 ha0
            have hsz : a0.tmps.size = 58 := by rw [ha0]; rfl
            have e7 : a0.eval (.tmp 7) = .pointer (some ⟨w.heap.size + 1 + 1 + 1, 0, none⟩) := by rw [ha0]; rfl
            have e8 : a0.eval (.tmp 8) = .pointer (some ⟨w.heap.size + 1 + 1 + 1 + 1, 0, none⟩) := by rw [ha0]; rfl
            have e4 : a0.eval (.tmp 4) = .pointer (some ⟨w.heap.size + 1, 0, none⟩) := by rw [ha0]; rfl
            have e5 : a0.eval (.tmp 5) = .pointer (some ⟨w.heap.size + 1 + 1, 0, none⟩) := by rw [ha0]; rfl
            have e9 : a0.eval (.tmp 9) = .bool false := by rw [ha0]; rfl
            refine ChainY.step _ (y_loadT rfl 25 _ Try.underlying25 rfl (.tmp 7) rfl (w.heap.size + 1 + 1 + 1) 0 (C5 (fun i => (mu i : Int))) (C5_info _) (by simp (decide := true) only [ev_eq, ev_ne, ev_const, put_size, hsz, e7, e8, e9, e4, e5]) (fun w' hw' => hw'.1)) ?_
            refine ChainY.step _ (y_loadT rfl 25 _ Try.underlying25 rfl (.tmp 8) rfl (w.heap.size + 1 + 1 + 1 + 1) 0 (C5 (fun i => (dv i : Int))) (C5_info _) (by simp (decide := true) only [ev_eq, ev_ne, ev_const, put_size, hsz, e7, e8, e9, e4, e5]) (fun w' hw' => hw'.2)) ?_
            refine ChainY.step (.bool false) (y_move rfl (.tmp 9) rfl _ (by simp (decide := true) only [ev_eq, ev_ne, ev_const, put_size, hsz, e7, e8, e9, e4, e5])) ?_
            refine ChainY.done ⟨w.heap.size + 1, w.heap.size + 1 + 1, C5 (fun i => (mu i : Int)), C5 (fun i => (dv i : Int)), .bool false, (by simp (decide := true) only [ev_eq, ev_ne, ev_const, put_size, hsz, e7, e8, e9, e4, e5]), (by simp (decide := true) only [ev_eq, ev_ne, ev_const, put_size, hsz, e7, e8, e9, e4, e5]), (by simp (decide := true) only [ev_eq, ev_ne, ev_const, put_size, hsz, e7, e8, e9, e4, e5]), (by simp (decide := true) only [ev_eq, ev_ne, ev_const, put_size, hsz, e7, e8, e9, e4, e5]), C5_info _, C5_info _, C5_ones _, C5_ones _, (by simp (decide := true) only [ev_eq, ev_ne, ev_const, put_size, hsz, e7, e8, e9, e4, e5]), ?_, ?_, ?_, ?_, ?_⟩
            · rw [C5_size]; exact HR5.out.2.2.1.there
            · rw [C5_size]; exact HR5.out.2.2.2.1.there
            · exact ⟨World.rangeAt_setCells_apart (w := wr.drewN 1) HR5.out.2.2.2.2.1.range5 _ _ _ (Or.inl (by omega)), World.rangeAt_setCells_apart (w := wr.drewN 1) HR5.out.2.2.2.2.2.range5 _ _ _ (Or.inl (by omega))⟩
            · exact ⟨World.rangeAt_setCells_apart (World.rangeAt_setCells_apart (w := wr.drewN 1) HR5.out.2.2.2.2.1.range5 _ _ _ (Or.inl (by omega))) _ _ _ (Or.inl (by omega)), World.rangeAt_setCells_apart (World.rangeAt_setCells_apart (w := wr.drewN 1) HR5.out.2.2.2.2.2.range5 _ _ _ (Or.inl (by omega))) _ _ _ (Or.inl (by omega))⟩
            rw [ha0]
            simp only [Act.put, List.setIfInBounds_toArray, List.set_cons_succ, List.set_cons_zero]
            have HWF : Hid ((((wr.drewN 1).setCells (w.heap.size + 1) 0 (C5 (fun i => (mu i : Int))).toList).setCells (w.heap.size + 1 + 1) 0 (C5 (fun i => (dv i : Int))).toList).rangeAt (w.heap.size + 1) 0 (C5 (fun i => (mu i : Int))).toList ∧ (((wr.drewN 1).setCells (w.heap.size + 1) 0 (C5 (fun i => (mu i : Int))).toList).setCells (w.heap.size + 1 + 1) 0 (C5 (fun i => (dv i : Int))).toList).rangeAt (w.heap.size + 1 + 1) 0 (C5 (fun i => (dv i : Int))).toList ∧ Below w.heap.size w (((wr.drewN 1).setCells (w.heap.size + 1) 0 (C5 (fun i => (mu i : Int))).toList).setCells (w.heap.size + 1 + 1) 0 (C5 (fun i => (dv i : Int))).toList)) := by
              have t1 : (wr.drewN 1).there (w.heap.size + 1) 0 5 := HR5.out.2.2.1.there
              have t2 : (wr.drewN 1).there (w.heap.size + 1 + 1) 0 5 := HR5.out.2.2.2.1.there
              have bb : Below w.heap.size w (wr.drewN 1) := below_drewN HR5.out.1 1
              exact ⟨World.rangeAt_setCells_apart (World.rangeAt_setCells_same _ _ _ _ (by rw [Array.length_toList, C5_size]; exact t1)) _ _ _ (Or.inl (by omega)), World.rangeAt_setCells_same _ _ _ _ (by rw [Array.length_toList, C5_size]; exact World.there_setCells t2 _ _ _), below_setCells (by omega) _ _ _ (below_setCells (by omega) _ _ _ bb)⟩
            generalize ((wr.drewN 1).setCells (w.heap.size + 1) 0 (C5 (fun i => (mu i : Int))).toList).setCells (w.heap.size + 1 + 1) 0 (C5 (fun i => (dv i : Int))).toList = WE at *
            clear ha0 hsz e7 e8 e4 e5 e9 a0
            go_wp2_with fail
            have hL1 : (loadVar 25 ⟨w.heap.size + 1, 0, none⟩).run Try.prog WE = .ok (.agg (C5 (fun i => (mu i : Int)))) WE := by
              have h := run_loadVar_mid (P := Try.prog) WE (w.heap.size + 1) 0 25 (C5 (fun i => (mu i : Int))).toList _ HWF.out.1 Try.underlying25 rfl (C5_info' _)
              rw [Array.toArray_toList] at h
              exact h
            have hL2 : (loadVar 25 ⟨w.heap.size + 1 + 1, 0, none⟩).run Try.prog WE = .ok (.agg (C5 (fun i => (dv i : Int)))) WE := by
              have h := run_loadVar_mid (P := Try.prog) WE (w.heap.size + 1 + 1) 0 25 (C5 (fun i => (dv i : Int))).toList _ HWF.out.2.1 Try.underlying25 rfl (C5_info' _)
              rw [Array.toArray_toList] at h
              exact h
            have hA : ∀ (a : Addr) (w : World), Sem.run Try.prog (asAddr (.pointer (some a))) w = .ok a w := fun _ _ => rfl
            simp [bodyPost, results, Try.results8, hA, hL1, hL2]
            exact ⟨⟨mu, dv, ⟨C5_def _, C5_def _⟩, HSC.out⟩, HWF.out.2.2⟩
end Go.Proofs.Qxb6616476a
