import Derived.Test.Qxb6616476aArr
import Derived.Test.Qxb6616476aLaw4
import Derived.ShutString
import Derived.ChangeOld
namespace Go.Proofs.Qxb6616476a
open Go.ChangeShapes Go.WideShapes Go.ChangeAt Go.RowKit

theorem wf_word {x : Int} (h : (Lit.int .u64 x).wf = true) : Word x := by
  have h1 : IntKind.u64.min = 0 := by decide
  have h2 : IntKind.u64.max = 18446744073709551615 := by decide
  simp only [Lit.wf, Bool.and_eq_true, decide_eq_true_eq, h1, h2] at h
  exact ⟨h.1, by omega⟩
theorem wf_nat {x : Int} (h : (Lit.int .u64 x).wf = true) : ∃ n : Nat, x = (n : Int) ∧ n < 18446744073709551616 := by
  obtain ⟨h1, h2⟩ := wf_word h
  exact ⟨x.toNat, by omega, by omega⟩
def fn4 (a b c d : Int) : Nat → Int
  | 0 => a
  | 1 => b
  | 2 => c
  | _ => d
def fn5 (a b c d e : Int) : Nat → Int
  | 0 => a
  | 1 => b
  | 2 => c
  | 3 => d
  | _ => e
def fn5n (a b c d e : Nat) : Nat → Nat
  | 0 => a
  | 1 => b
  | 2 => c
  | 3 => d
  | _ => e
theorem fn4_word {a b c d : Int} (ha : Word a) (hb : Word b) (hc : Word c) (hd : Word d) (i : Nat) : Word (fn4 a b c d i) := by
  unfold fn4
  split <;> assumption
theorem fn5_word {a b c d e : Int} (ha : Word a) (hb : Word b) (hc : Word c) (hd : Word d) (he : Word e) (i : Nat) : Word (fn5 a b c d e i) := by
  unfold fn5
  split <;> assumption
theorem fn5n_lt {a b c d e : Nat} (ha : a < 18446744073709551616) (hb : b < 18446744073709551616) (hc : c < 18446744073709551616) (hd : d < 18446744073709551616) (he : e < 18446744073709551616) (i : Nat) : fn5n a b c d e i < 18446744073709551616 := by
  unfold fn5n
  split <;> assumption
theorem law4_all (k0 k1 k2 k3 k4 k5 k6 k7 ph pl a0 a1 a2 a3 a4 : Int) (l0 l1 l2 l3 l4 f g : Nat) (hk : Word k0 ∧ Word k1 ∧ Word k2 ∧ Word k3 ∧ Word k4 ∧ Word k5 ∧ Word k6 ∧ Word k7) (hp : Word ph ∧ Word pl) (ha : Word a0 ∧ Word a1 ∧ Word a2 ∧ Word a3 ∧ Word a4) (hl : l0 < 18446744073709551616 ∧ l1 < 18446744073709551616 ∧ l2 < 18446744073709551616 ∧ l3 < 18446744073709551616 ∧ l4 < 18446744073709551616) (hf : f < 18446744073709551616) (hg : g < 18446744073709551616) (W : World) :
    Calls Try.prog 4 #[.agg #[.int .u64 k0, .int .u64 k1, .int .u64 k2, .int .u64 k3, .int .u64 k4, .int .u64 k5, .int .u64 k6, .int .u64 k7], .agg #[.int .u64 ph, .int .u64 pl], .agg #[.int .u64 a0, .int .u64 a1, .int .u64 a2, .int .u64 a3, .int .u64 a4], .agg #[.int .u64 (l0 : Nat), .int .u64 (l1 : Nat), .int .u64 (l2 : Nat), .int .u64 (l3 : Nat), .int .u64 (l4 : Nat)], .int .u64 f, .int .u64 g] W fun e w' => e = .returned (.bool true) ∧ Below W.heap.size W w' :=
  law4 (fn4 k0 k2 k4 k6) (fn4 k1 k3 k5 k7) (fn5 a0 a1 a2 a3 a4) (fn5n l0 l1 l2 l3 l4) ph pl f g (fun i => ⟨fn4_word hk.1 hk.2.2.1 hk.2.2.2.2.1 hk.2.2.2.2.2.2.1 i, fn4_word hk.2.1 hk.2.2.2.1 hk.2.2.2.2.2.1 hk.2.2.2.2.2.2.2 i⟩) (fn5_word ha.1 ha.2.1 ha.2.2.1 ha.2.2.2.1 ha.2.2.2.2) (fn5n_lt hl.1 hl.2.1 hl.2.2.1 hl.2.2.2.1 hl.2.2.2.2) hp hf hg W
set_option maxHeartbeats 2000000 in
set_option maxRecDepth 100000 in
theorem dep_lifted (os : Os) (started : os.Started) (H : Type) (enc : TypeId × Value → H) :
    ReturnsInHanded {} Try.checked os 4 .any (Rows.fnFeeByFractionsDependsOnFeeUnitsPerLimitAloneSpec.pre6 enc Try.prog Try.f4 Rows.fnFeeByFractionsDependsOnFeeUnitsPerLimitAloneRow.domain false) (Rows.fnFeeByFractionsDependsOnFeeUnitsPerLimitAloneSpec.post enc Try.prog Try.f4 false true false false) := by
  refine returnsInHanded_of_change (C := Try.checked) Try.own started (by kernel_rfl) Try.func4
    (ChangeSpec.witness6 (enc := enc) (C := Try.checked) false ⟨#[], #[.agg #[.int .u64 0, .int .u64 0, .int .u64 0, .int .u64 0, .int .u64 0, .int .u64 0, .int .u64 0, .int .u64 0], .agg #[.int .u64 0, .int .u64 0], .agg #[.int .u64 0, .int .u64 0, .int .u64 0, .int .u64 0, .int .u64 0], .agg #[.int .u64 0, .int .u64 0, .int .u64 0, .int .u64 0, .int .u64 0], .int .u64 0, .int .u64 0], []⟩ 8 (by kernel_rfl) (by kernel_rfl) (by kernel_rfl) (by kernel_rfl)) ?_
  intro W base args ds gs before hval0 hW hcnd _
  have hval : ∀ (j : Nat) t v, Try.f4.params[j]? = some t → args[j]? = some v → Value.okWide Try.prog W .any base t v := hval0
  have hW' := hW
  obtain ⟨p, q, hA0, hV, rfl, hfz, hnd⟩ := hW
  have hA : DataW.TrodAll enc Try.prog W 0 (fun _ => true) true Try.f4.params.toList args.toList ds p := hA0
  rw [Try.params4] at hA hval
  obtain ⟨v0, vs0, d0, ds0, p0, q0, hargs, rfl, rfl, h0, r0⟩ := trodAll_cons hA
  obtain ⟨v1, vs1, d1, ds1, p1, q1, rfl, rfl, rfl, h1, r1⟩ := trodAll_cons r0
  obtain ⟨v2, vs2, d2, ds2, p2, q2, rfl, rfl, rfl, h2, r2⟩ := trodAll_cons r1
  obtain ⟨v3, vs3, d3, ds3, p3, q3, rfl, rfl, rfl, h3, r3⟩ := trodAll_cons r2
  obtain ⟨v4, vs4, d4, ds4, p4, q4, rfl, rfl, rfl, h4, r4⟩ := trodAll_cons r3
  obtain ⟨v5, vs5, d5, ds5, p5, q5, rfl, rfl, rfl, h5, r5⟩ := trodAll_cons r4
  obtain ⟨rfl, rfl, rfl⟩ := trodAll_nil r5
  obtain rfl : args = #[v0, v1, v2, v3, v4, v5] := by cases args; simp_all
  obtain ⟨rfl, rfl⟩ := trodVars_none hV
  have lt0 : ∀ x ∈ p0, x.block < W.heap.size := by obtain ⟨m, hm⟩ := h0; exact DataW.trod_lt m _ _ _ hm
  have lt1 : ∀ x ∈ p1, x.block < W.heap.size := by obtain ⟨m, hm⟩ := h1; exact DataW.trod_lt m _ _ _ hm
  have lt2 : ∀ x ∈ p2, x.block < W.heap.size := by obtain ⟨m, hm⟩ := h2; exact DataW.trod_lt m _ _ _ hm
  have lt3 : ∀ x ∈ p3, x.block < W.heap.size := by obtain ⟨m, hm⟩ := h3; exact DataW.trod_lt m _ _ _ hm
  have lt4 : ∀ x ∈ p4, x.block < W.heap.size := by obtain ⟨m, hm⟩ := h4; exact DataW.trod_lt m _ _ _ hm
  have lt5 : ∀ x ∈ p5, x.block < W.heap.size := by obtain ⟨m, hm⟩ := h5; exact DataW.trod_lt m _ _ _ hm
  have run : Calls Try.prog 4 #[v0, v1, v2, v3, v4, v5] W fun e w' => e = .returned (.bool true) ∧ Below W.heap.size W w' := by
    obtain ⟨x0, n0, rfl, o0⟩ := open_arr2 Try.underlying24 Try.underlying23 Try.underlying22 Try.cells22 Try.cells23 Try.cells24 (hval 0 24 v0 rfl rfl) h0
    obtain ⟨x1, n1, rfl, o1⟩ := open_arr Try.underlying23 Try.underlying22 Try.cells22 Try.cells23 (hval 1 23 v1 rfl rfl) h1
    obtain ⟨x2, n2, rfl, o2⟩ := open_arr Try.underlying25 Try.underlying22 Try.cells22 Try.cells25 (hval 2 25 v2 rfl rfl) h2
    obtain ⟨x3, n3, rfl, o3⟩ := open_arr Try.underlying25 Try.underlying22 Try.cells22 Try.cells25 (hval 3 25 v3 rfl rfl) h3
    obtain ⟨f, rfl, o4⟩ := open_int Try.underlying22 (hval 4 22 v4 rfl rfl) h4
    obtain ⟨g, rfl, o5⟩ := open_int Try.underlying22 (hval 5 22 v5 rfl rfl) h5
    obtain ⟨k0, k1, k2, k3, k4, k5, k6, k7, rfl⟩ := len8 n0
    obtain ⟨ph, pl, rfl⟩ := len2 n1
    obtain ⟨a0, a1, a2, a3, a4, rfl⟩ := len5 n2
    obtain ⟨y0, y1, y2, y3, y4, rfl⟩ := len5 n3
    obtain ⟨l0, rfl, m0⟩ := wf_nat (o3 y0 (by simp))
    obtain ⟨l1, rfl, m1⟩ := wf_nat (o3 y1 (by simp))
    obtain ⟨l2, rfl, m2⟩ := wf_nat (o3 y2 (by simp))
    obtain ⟨l3, rfl, m3⟩ := wf_nat (o3 y3 (by simp))
    obtain ⟨l4, rfl, m4⟩ := wf_nat (o3 y4 (by simp))
    obtain ⟨fn, rfl, mf⟩ := wf_nat o4.2.2
    obtain ⟨gn, rfl, mg⟩ := wf_nat o5.2.2
    have w0 := fun x hx => wf_word (o0 x hx)
    have w1 := fun x hx => wf_word (o1 x hx)
    have w2 := fun x hx => wf_word (o2 x hx)
    exact law4_all k0 k1 k2 k3 k4 k5 k6 k7 ph pl a0 a1 a2 a3 a4 l0 l1 l2 l3 l4 fn gn ⟨w0 _ (by simp), w0 _ (by simp), w0 _ (by simp), w0 _ (by simp), w0 _ (by simp), w0 _ (by simp), w0 _ (by simp), w0 _ (by simp)⟩ ⟨w1 _ (by simp), w1 _ (by simp)⟩ ⟨w2 _ (by simp), w2 _ (by simp), w2 _ (by simp), w2 _ (by simp), w2 _ (by simp)⟩ ⟨m0, m1, m2, m3, m4⟩ mf mg W
  clear hA0 hval0
  refine run.mono fun e W' ⟨he, bel⟩ => ?_
  subst he
  exact ⟨_, rfl, _, _, _, [], _, [], hW', trodAll_mk1 (shut_bool Try.underlying4 _),
    (trodAll_cons_mk (Below.trod Try.laidOut (by kernel_rfl) (of_decide_eq_true (by kernel_rfl)) h0 bel lt0)
    (trodAll_cons_mk (Below.trod Try.laidOut (by kernel_rfl) (of_decide_eq_true (by kernel_rfl)) h1 bel lt1)
    (trodAll_cons_mk (Below.trod Try.laidOut (by kernel_rfl) (of_decide_eq_true (by kernel_rfl)) h2 bel lt2)
    (trodAll_cons_mk (Below.trod Try.laidOut (by kernel_rfl) (of_decide_eq_true (by kernel_rfl)) h3 bel lt3)
    (trodAll_cons_mk (Below.trod Try.laidOut (by kernel_rfl) (of_decide_eq_true (by kernel_rfl)) h4 bel lt4)
    (trodAll_cons_mk (Below.trod Try.laidOut (by kernel_rfl) (of_decide_eq_true (by kernel_rfl)) h5 bel lt5) trodAll_mk0)))))), rfl, bel.frame _, fun h => by cases h⟩

/-- THE STATEMENT -/
theorem fnFeeByFractionsDependsOnFeeUnitsPerLimitAlone_holds : Rows.FnFeeByFractionsDependsOnFeeUnitsPerLimitAloneSaid :=
  OpenClaim.holds_of_wide 4 Try.f4 rfl rfl rfl rfl rfl rfl rfl ⟨rfl, rfl, rfl, rfl, rfl⟩ rfl rfl rfl rfl rfl (by kernel_rfl) Try.func4 (by kernel_rfl)
    (of_decide_eq_true (by kernel_rfl)) (by unfold Func.isWrapper; rw [if_neg (of_decide_eq_false (by kernel_rfl))]; exact ⟨rfl, rfl⟩)
    (fun os started H enc _ => dep_lifted os started H enc)
end Go.Proofs.Qxb6616476a
