import Derived.Test.Qxb6616476aArr
import Derived.Test.Qxb6616476aValidC
import Derived.ShutString
import Derived.ChangeOld
namespace Go.Proofs.Qxb6616476a
open Go.ChangeShapes Go.WideShapes Go.ChangeAt Go.RowKit

set_option maxRecDepth 100000 in
theorem valid_lifted (os : Os) (started : os.Started) (H : Type) (enc : TypeId × Value → H) :
    ReturnsInHanded {} Try.checked os 5 .any (Rows.fnValidSeesOnlyTheRefusalAndTheThreeAmountsSpec.pre6 enc Try.prog Try.f5 Rows.fnValidSeesOnlyTheRefusalAndTheThreeAmountsRow.domain false) (Rows.fnValidSeesOnlyTheRefusalAndTheThreeAmountsSpec.post enc Try.prog Try.f5 false true false false) := by
  refine returnsInHanded_of_change (C := Try.checked) Try.own started (by kernel_rfl) Try.func5
    (ChangeSpec.witness6 (enc := enc) (C := Try.checked) false ⟨#[], #[.agg #[.int .u64 0, .int .u64 0, .int .u64 0, .int .u64 0], .agg #[.int .u64 0, .int .u64 0, .int .u64 0], .agg #[.int .u64 0, .int .u64 0, .int .u64 0, .int .u64 0, .int .u64 0, .int .u64 0], .bool false, .agg #[.int .u64 0, .int .u64 0, .int .u64 0, .int .u64 0], .agg #[.int .u64 0, .int .u64 0, .int .u64 0]], []⟩ 8 (by kernel_rfl) (by kernel_rfl) (by kernel_rfl) (by kernel_rfl)) ?_
  intro W base args ds gs before hval0 hW hcnd _
  have hval : ∀ (j : Nat) t v, Try.f5.params[j]? = some t → args[j]? = some v → Value.okWide Try.prog W .any base t v := hval0
  have hW' := hW
  obtain ⟨p, q, hA0, hV, rfl, hfz, hnd⟩ := hW
  have hA : DataW.TrodAll enc Try.prog W 0 (fun _ => true) true Try.f5.params.toList args.toList ds p := hA0
  rw [Try.params5] at hA hval
  obtain ⟨v0, vs0, d0, ds0, p0, q0, hargs, rfl, rfl, h0, r0⟩ := trodAll_cons hA
  obtain ⟨v1, vs1, d1, ds1, p1, q1, rfl, rfl, rfl, h1, r1⟩ := trodAll_cons r0
  obtain ⟨v2, vs2, d2, ds2, p2, q2, rfl, rfl, rfl, h2, r2⟩ := trodAll_cons r1
  obtain ⟨v3, vs3, d3, ds3, p3, q3, rfl, rfl, rfl, h3, r3⟩ := trodAll_cons r2
  obtain ⟨v4, vs4, d4, ds4, p4, q4, rfl, rfl, rfl, h4, r4⟩ := trodAll_cons r3
  obtain ⟨v5, vs5, d5, ds5, p5, q5, rfl, rfl, rfl, h5, r5⟩ := trodAll_cons r4
  obtain ⟨rfl, rfl, rfl⟩ := trodAll_nil r5
  obtain rfl : args = #[v0, v1, v2, v3, v4, v5] := by cases args; simp_all
  obtain ⟨rfl, rfl⟩ := trodVars_none hV
  have lt0 : ∀ x ∈ p0, x.block < W.heap.size := by obtain ⟨m, hm⟩ := h0; exact DataW.trod_lt m _ _ _ hm
  have lt1 : ∀ x ∈ p1, x.block < W.heap.size := by obtain ⟨m, hm⟩ := h1; exact DataW.trod_lt m _ _ _ hm
  have lt2 : ∀ x ∈ p2, x.block < W.heap.size := by obtain ⟨m, hm⟩ := h2; exact DataW.trod_lt m _ _ _ hm
  have lt3 : ∀ x ∈ p3, x.block < W.heap.size := by obtain ⟨m, hm⟩ := h3; exact DataW.trod_lt m _ _ _ hm
  have lt4 : ∀ x ∈ p4, x.block < W.heap.size := by obtain ⟨m, hm⟩ := h4; exact DataW.trod_lt m _ _ _ hm
  have lt5 : ∀ x ∈ p5, x.block < W.heap.size := by obtain ⟨m, hm⟩ := h5; exact DataW.trod_lt m _ _ _ hm
  have run : Calls Try.prog 5 #[v0, v1, v2, v3, v4, v5] W fun e w' => e = .returned (.bool true) ∧ Below W.heap.size W w' := by
    obtain ⟨x0, n0, rfl, _⟩ := open_arr Try.underlying33 Try.underlying22 Try.cells22 Try.cells33 (hval 0 33 v0 rfl rfl) h0
    obtain ⟨x1, n1, rfl, _⟩ := open_arr Try.underlying34 Try.underlying22 Try.cells22 Try.cells34 (hval 1 34 v1 rfl rfl) h1
    obtain ⟨x2, n2, rfl, _⟩ := open_arr Try.underlying35 Try.underlying22 Try.cells22 Try.cells35 (hval 2 35 v2 rfl rfl) h2
    obtain ⟨b, rfl, _, _⟩ := open_bool Try.underlying4 (hval 3 4 v3 rfl rfl) h3
    obtain ⟨x4, n4, rfl, _⟩ := open_arr Try.underlying33 Try.underlying22 Try.cells22 Try.cells33 (hval 4 33 v4 rfl rfl) h4
    obtain ⟨x5, n5, rfl, _⟩ := open_arr Try.underlying34 Try.underlying22 Try.cells22 Try.cells34 (hval 5 34 v5 rfl rfl) h5
    obtain ⟨l0, l1, l2, l3, rfl⟩ := len4 n0
    obtain ⟨c0, c1, c2, rfl⟩ := len3 n1
    obtain ⟨a0, a1, a2, a3, a4, a5, rfl⟩ := len6 n2
    obtain ⟨m0, m1, m2, m3, rfl⟩ := len4 n4
    obtain ⟨s0, s1, s2, rfl⟩ := len3 n5
    cases b
    · exact law_yes l0 l1 l2 l3 c0 c1 c2 a0 a1 a2 a3 a4 a5 m0 m1 m2 m3 s0 s1 s2 W
    · exact law_no l0 l1 l2 l3 c0 c1 c2 a0 a1 a2 a3 a4 a5 m0 m1 m2 m3 s0 s1 s2 W
  clear hA0 hval0
  refine run.mono fun e W' ⟨he, bel⟩ => ?_
  subst he
  exact ⟨_, rfl, _, _, _, [], _, [], hW', trodAll_mk1 (shut_bool Try.underlying4 _),
    (trodAll_cons_mk (Below.trod Try.laidOut (by kernel_rfl) (of_decide_eq_true (by kernel_rfl)) h0 bel lt0)
    (trodAll_cons_mk (Below.trod Try.laidOut (by kernel_rfl) (of_decide_eq_true (by kernel_rfl)) h1 bel lt1)
    (trodAll_cons_mk (Below.trod Try.laidOut (by kernel_rfl) (of_decide_eq_true (by kernel_rfl)) h2 bel lt2)
    (trodAll_cons_mk (Below.trod Try.laidOut (by kernel_rfl) (of_decide_eq_true (by kernel_rfl)) h3 bel lt3)
    (trodAll_cons_mk (Below.trod Try.laidOut (by kernel_rfl) (of_decide_eq_true (by kernel_rfl)) h4 bel lt4)
    (trodAll_cons_mk (Below.trod Try.laidOut (by kernel_rfl) (of_decide_eq_true (by kernel_rfl)) h5 bel lt5) trodAll_mk0)))))), rfl, bel.frame _, fun h => by cases h⟩

/-- THE STATEMENT -/
theorem fnValidSeesOnlyTheRefusalAndTheThreeAmounts_holds : Rows.FnValidSeesOnlyTheRefusalAndTheThreeAmountsSaid :=
  OpenClaim.holds_of_wide 5 Try.f5 rfl rfl rfl rfl rfl rfl rfl ⟨rfl, rfl, rfl, rfl, rfl⟩ rfl rfl rfl rfl rfl (by kernel_rfl) Try.func5 (by kernel_rfl)
    (of_decide_eq_true (by kernel_rfl)) (by unfold Func.isWrapper; rw [if_neg (of_decide_eq_false (by kernel_rfl))]; exact ⟨rfl, rfl⟩)
    (fun os started H enc _ => valid_lifted os started H enc)
end Go.Proofs.Qxb6616476a
