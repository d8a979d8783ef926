import Derived.Test.Qxb6616724aRows
import Derived.Test.Qxb6616724aLaw
import Derived.ProofKit
import Derived.OpenShut
import Derived.ShutString
import Derived.ChangeOld
import Derived.SliceStrings
namespace Go.Proofs.Qxb6616724a
open Go.ChangeShapes Go.WideShapes Go.ChangeAt Go.RowKit

theorem Try.own : ownKnob Try.prog.godebug = none := by kernel_rfl
theorem Try.laidOut : laidOutB Try.prog = true := by kernel_rfl
theorem Try.cells9 : Try.prog.cellsOf 9 = 1 := by kernel_rfl

theorem cell_none (W : World) (b o : Nat) (h : W.heap.size ≤ b) : W.cell? ⟨b, o, none⟩ = none := by
  simp [World.cell?, Array.getElem?_eq_none h]

/-- an argument of the law, a slice of strings, read off the memory -/
theorem ss_arg {H : Type} {enc : TypeId × Value → H} {W : World} {fuel : Nat} {v : Value} {x : DataW H × List MemPlace} {held : Bool} {base : Nat}
    (hw : Value.okWide Try.prog W .any base 22 v)
    (hf : DataW.trod enc Try.prog W 0 (fun _ => true) held fuel 22 v.cells.toList = some x) :
    ∃ a n c ss, v = .slice a n c ∧ SS W a n ss := by
  obtain ⟨a0, len, cap, rfl⟩ := okWide_slice Try.underlying22 hw
  rcases open_strings Try.underlying22 Try.underlying9 Try.cells9 hf with ⟨hcs, hx⟩ | ⟨a, len', cap', ss, hcs, _, hl, hm, hz, hx, hcell, hws⟩
  · simp [Value.cells] at hcs
    obtain ⟨rfl, rfl, rfl⟩ := hcs
    exact ⟨_, _, _, [], rfl, rfl, Nat.zero_le _, fun i s h => by simp at h⟩
  · simp [Value.cells] at hcs
    obtain ⟨rfl, rfl, rfl⟩ := hcs
    simp only [if_true] at hz
    refine ⟨_, _, _, ss.take len, rfl, by simp; omega, by omega, ?_⟩
    intro i s hs
    have hi : i < len := by
      rcases Nat.lt_or_ge i len with h | h
      · exact h
      · rw [List.getElem?_eq_none (by simp; omega)] at hs; cases hs
    obtain ⟨b, off, spot⟩ := a
    have hspot : spot = none := by simpa [Addr.add] using World.cell?_spot (hcell 0 (by omega))
    subst hspot
    have hc0 := hcell i (by omega)
    rw [add_plain] at hc0
    have hbz : b < W.heap.size := by
      rcases Nat.lt_or_ge b W.heap.size with h | h
      · exact h
      · exfalso
        have hx0 : W.cell? ⟨b, off + i, none⟩ = none := cell_none W b _ h
        rw [hx0] at hc0
        cases hc0
    rw [List.getElem?_take_of_lt hi] at hs
    rw [List.getD, hs] at hc0
    exact ⟨hws s (List.mem_of_getElem? hs), b, off, rfl, hbz, hc0⟩

set_option maxRecDepth 100000 in
theorem meet_lifted (os : Os) (started : os.Started) (H : Type) (enc : TypeId × Value → H) :
    ReturnsInHanded {} Try.checked os 3 .any (Rows.fnMeetIsAnyPathOfOneSideMetSpec.pre6 enc Try.prog Try.f3 Rows.fnMeetIsAnyPathOfOneSideMetRow.domain false) (Rows.fnMeetIsAnyPathOfOneSideMetSpec.post enc Try.prog Try.f3 false true false false) := by
  refine returnsInHanded_of_change (C := Try.checked) Try.own started (by kernel_rfl) Try.func3
    (ChangeSpec.witness6 (enc := enc) (C := Try.checked) false ⟨#[], #[.slice none 0 0, .slice none 0 0, .slice none 0 0, .slice none 0 0, .slice none 0 0, .slice none 0 0], []⟩ 8 (by kernel_rfl) (by kernel_rfl) (by kernel_rfl) (by kernel_rfl)) ?_
  intro W base args ds gs before hval0 hW hcnd _
  have hval : ∀ (j : Nat) t v, Try.f3.params[j]? = some t → args[j]? = some v → Value.okWide Try.prog W .any base t v := hval0
  have hW' := hW
  obtain ⟨p, q, hA0, hV, rfl, hfz, hnd⟩ := hW
  have hA : DataW.TrodAll enc Try.prog W 0 (fun _ => true) true Try.f3.params.toList args.toList ds p := hA0
  rw [Try.params3] at hA hval
  obtain ⟨v0, vs0, d0, ds0, p0, q0, hargs, rfl, rfl, h0, r0⟩ := trodAll_cons hA
  obtain ⟨v1, vs1, d1, ds1, p1, q1, rfl, rfl, rfl, h1, r1⟩ := trodAll_cons r0
  obtain ⟨v2, vs2, d2, ds2, p2, q2, rfl, rfl, rfl, h2, r2⟩ := trodAll_cons r1
  obtain ⟨v3, vs3, d3, ds3, p3, q3, rfl, rfl, rfl, h3, r3⟩ := trodAll_cons r2
  obtain ⟨v4, vs4, d4, ds4, p4, q4, rfl, rfl, rfl, h4, r4⟩ := trodAll_cons r3
  obtain ⟨v5, vs5, d5, ds5, p5, q5, rfl, rfl, rfl, h5, r5⟩ := trodAll_cons r4
  obtain ⟨rfl, rfl, rfl⟩ := trodAll_nil r5
  obtain rfl : args = #[v0, v1, v2, v3, v4, v5] := by cases args; simp_all
  obtain ⟨rfl, rfl⟩ := trodVars_none hV
  have lt0 : ∀ x ∈ p0, x.block < W.heap.size := by obtain ⟨m, hm⟩ := h0; exact DataW.trod_lt m _ _ _ hm
  have lt1 : ∀ x ∈ p1, x.block < W.heap.size := by obtain ⟨m, hm⟩ := h1; exact DataW.trod_lt m _ _ _ hm
  have lt2 : ∀ x ∈ p2, x.block < W.heap.size := by obtain ⟨m, hm⟩ := h2; exact DataW.trod_lt m _ _ _ hm
  have lt3 : ∀ x ∈ p3, x.block < W.heap.size := by obtain ⟨m, hm⟩ := h3; exact DataW.trod_lt m _ _ _ hm
  have lt4 : ∀ x ∈ p4, x.block < W.heap.size := by obtain ⟨m, hm⟩ := h4; exact DataW.trod_lt m _ _ _ hm
  have lt5 : ∀ x ∈ p5, x.block < W.heap.size := by obtain ⟨m, hm⟩ := h5; exact DataW.trod_lt m _ _ _ hm
  have run : Calls Try.prog 3 #[v0, v1, v2, v3, v4, v5] W fun e w' => e = .returned (.bool true) ∧ Below W.heap.size W w' := by
    obtain ⟨f0, g0⟩ := h0
    obtain ⟨a0, n0, c0, s0, rfl, k0⟩ := ss_arg (hval 0 22 v0 rfl rfl) g0
    obtain ⟨f1, g1⟩ := h1
    obtain ⟨a1, n1, c1, s1, rfl, k1⟩ := ss_arg (hval 1 22 v1 rfl rfl) g1
    obtain ⟨f2, g2⟩ := h2
    obtain ⟨a2, n2, c2, s2, rfl, k2⟩ := ss_arg (hval 2 22 v2 rfl rfl) g2
    obtain ⟨f3, g3⟩ := h3
    obtain ⟨a3, n3, c3, s3, rfl, k3⟩ := ss_arg (hval 3 22 v3 rfl rfl) g3
    obtain ⟨f4, g4⟩ := h4
    obtain ⟨a4, n4, c4, s4, rfl, k4⟩ := ss_arg (hval 4 22 v4 rfl rfl) g4
    obtain ⟨f5, g5⟩ := h5
    obtain ⟨a5, n5, c5, s5, rfl, k5⟩ := ss_arg (hval 5 22 v5 rfl rfl) g5
    exact law_any a0 a1 a2 a3 a4 a5 n0 n1 n2 n3 n4 n5 c0 c1 c2 c3 c4 c5 s0 s1 s2 s3 s4 s5 W k0 k1 k2 k3 k4 k5
  clear hA0 hval0
  refine run.mono fun e W' ⟨he, bel⟩ => ?_
  subst he
  exact ⟨_, rfl, _, _, _, [], _, [], hW', trodAll_mk1 (shut_bool Try.underlying4 _),
    (trodAll_cons_mk (Below.trod Try.laidOut (by kernel_rfl) (of_decide_eq_true (by kernel_rfl)) h0 bel lt0)
    (trodAll_cons_mk (Below.trod Try.laidOut (by kernel_rfl) (of_decide_eq_true (by kernel_rfl)) h1 bel lt1)
    (trodAll_cons_mk (Below.trod Try.laidOut (by kernel_rfl) (of_decide_eq_true (by kernel_rfl)) h2 bel lt2)
    (trodAll_cons_mk (Below.trod Try.laidOut (by kernel_rfl) (of_decide_eq_true (by kernel_rfl)) h3 bel lt3)
    (trodAll_cons_mk (Below.trod Try.laidOut (by kernel_rfl) (of_decide_eq_true (by kernel_rfl)) h4 bel lt4)
    (trodAll_cons_mk (Below.trod Try.laidOut (by kernel_rfl) (of_decide_eq_true (by kernel_rfl)) h5 bel lt5)
    trodAll_mk0)))))), rfl, bel.frame _, fun h => by cases h⟩

/-- THE STATEMENT -/
theorem fnMeetIsAnyPathOfOneSideMet_holds : Rows.FnMeetIsAnyPathOfOneSideMetSaid :=
  OpenClaim.holds_of_wide 3 Try.f3 rfl rfl rfl rfl rfl rfl rfl ⟨rfl, rfl, rfl, rfl, rfl⟩ rfl rfl rfl rfl rfl (by kernel_rfl) Try.func3 (by kernel_rfl)
    (of_decide_eq_true (by kernel_rfl)) (by unfold Func.isWrapper; rw [if_neg (of_decide_eq_false (by kernel_rfl))]; exact ⟨rfl, rfl⟩)
    (fun os started H enc _ => meet_lifted os started H enc)
end Go.Proofs.Qxb6616724a
