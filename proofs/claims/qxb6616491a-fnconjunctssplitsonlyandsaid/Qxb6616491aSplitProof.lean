import Derived.Test.Qxb6616491aSplit
import Derived.Test.Qxb6616491aAnyProof
import Derived.Deep.Strs
namespace Go.Proofs.Qxb6616491a
open Go.ChangeShapes Go.WideShapes Go.ChangeAt Go.RowKit Go.Deep
open Go.ChangeMaps (open_string shut_string)

theorem Try.cells34 : Try.prog.cellsOf 34 = 1 := by kernel_rfl
theorem Try.cells45 : Try.prog.cellsOf 45 = 3 := by kernel_rfl

theorem open_tin {H : Type} {enc : TypeId × Value → H} {W : World} {base : Nat} {sp : Nat → Bool} {hd : Bool} : ∀ (fuel : Nat) (cs : List Value) (x : DataW H × List MemPlace), DataW.trod enc Try.prog W base sp hd fuel 34 cs = some x →
    ∃ T : BT ByteArray, cs = [T.ptr] ∧ tin W T := by
  intro fuel
  induction fuel using Nat.strongRecOn with
  | _ fuel ih =>
    intro cs x h
    rcases DataW.trod_pointer Try.underlying34 h with ⟨rfl, rfl⟩ | ⟨a, cs', y, m, rfl, rfl, rfl, hcells, hy⟩
    · exact ⟨.nil, rfl, trivial⟩
    · rw [Try.cells45] at hcells
      obtain ⟨hb, hlen, hcell⟩ := World.cells?_some hcells
      obtain ⟨xs, n, hmn, _, _, hl, hf⟩ := DataW.trod_struct Try.underlying45 hy
      match cs', hlen with
      | [c0, c1, c2], _ =>
      have f0 := hf 0 _ rfl
      have f1 := hf 1 _ rfl
      have f2 := hf 2 _ rfl
      simp [Try.cells9, Try.cells34] at f0 f1 f2
      rw [List.getElem?_eq_getElem (by simp at hl; omega)] at f0 f1 f2
      obtain ⟨s, e0, _, ms⟩ := DataW.trod_string Try.underlying9 f0
      obtain ⟨Tl, el, hinl⟩ := ih n (by omega) [c1] _ f1
      obtain ⟨Tr, er, hinr⟩ := ih n (by omega) [c2] _ f2
      simp at e0 el er
      subst e0 el er
      obtain ⟨b, off, spot⟩ := a
      have h0 := hcell 0 (by omega)
      have h1 := hcell 1 (by omega)
      have h2 := hcell 2 (by omega)
      have hspot : spot = none := by simpa [Addr.add] using World.cell?_spot h0
      subst hspot
      rw [add_plain] at h0 h1 h2
      have hbz : b < W.heap.size := by
        rcases Nat.lt_or_ge b W.heap.size with h | h
        · exact h
        · rw [cell_none W b _ h] at h0; cases h0
      exact ⟨.node b off s Tl Tr, rfl, h0, h1, h2, hbz, ms, hinl, hinr⟩

set_option maxRecDepth 100000 in
theorem split_lifted (os : Os) (started : os.Started) (H : Type) (enc : TypeId × Value → H) :
    ReturnsInHanded {} Try.checked os 4 .any (Rows.fnConjunctsSplitsOnlyAndSpec.pre6 enc Try.prog Try.f4 Rows.fnConjunctsSplitsOnlyAndRow.domain false) (Rows.fnConjunctsSplitsOnlyAndSpec.post enc Try.prog Try.f4 false true false false) := by
  refine returnsInHanded_of_change (C := Try.checked) Try.own started (by kernel_rfl) Try.func4
    (ChangeSpec.witness6 (enc := enc) (C := Try.checked) false ⟨#[], #[.string ⟨#[]⟩, .pointer none, .pointer none], []⟩ 8 (by kernel_rfl) (by kernel_rfl) (by kernel_rfl) (by kernel_rfl)) ?_
  intro W base args ds gs before hval0 hW hcnd _
  have hval : ∀ (j : Nat) t v, Try.f4.params[j]? = some t → args[j]? = some v → Value.okWide Try.prog W .any base t v := hval0
  have hW' := hW
  obtain ⟨p, q, hA0, hV, rfl, hfz, hnd⟩ := hW
  have hA : DataW.TrodAll enc Try.prog W 0 (fun _ => true) true Try.f4.params.toList args.toList ds p := hA0
  rw [Try.params4] at hA hval
  obtain ⟨v0, vs0, d0, ds0, p0, q0, hargs, rfl, rfl, h0, r0⟩ := trodAll_cons hA
  obtain ⟨v1, vs1, d1, ds1, p1, q1, rfl, rfl, rfl, h1, r1⟩ := trodAll_cons r0
  obtain ⟨v2, vs2, d2, ds2, p2, q2, rfl, rfl, rfl, h2, r2⟩ := trodAll_cons r1
  obtain ⟨rfl, rfl, rfl⟩ := trodAll_nil r2
  obtain rfl : args = #[v0, v1, v2] := by cases args; simp_all
  obtain ⟨rfl, rfl⟩ := trodVars_none hV
  have lt0 : ∀ x ∈ p0, x.block < W.heap.size := by obtain ⟨m, hm⟩ := h0; exact DataW.trod_lt m _ _ _ hm
  have lt1 : ∀ x ∈ p1, x.block < W.heap.size := by obtain ⟨m, hm⟩ := h1; exact DataW.trod_lt m _ _ _ hm
  have lt2 : ∀ x ∈ p2, x.block < W.heap.size := by obtain ⟨m, hm⟩ := h2; exact DataW.trod_lt m _ _ _ hm
  have run : Calls Try.prog 4 #[v0, v1, v2] W fun e w' => e = .returned (.bool true) ∧ Below W.heap.size W w' := by
    obtain ⟨s, rfl, _, _, hs⟩ := open_string Try.underlying9 (hval 0 9 v0 rfl rfl) h0
    obtain ⟨a1, rfl⟩ := okWide_pointer Try.underlying34 (hval 1 34 v1 rfl rfl)
    obtain ⟨a2, rfl⟩ := okWide_pointer Try.underlying34 (hval 2 34 v2 rfl rfl)
    obtain ⟨f1, hf1⟩ := h1
    obtain ⟨f2, hf2⟩ := h2
    obtain ⟨T, eT, hT⟩ := open_tin f1 _ _ (by simpa [Value.cells] using hf1)
    obtain ⟨U, eU, hU⟩ := open_tin f2 _ _ (by simpa [Value.cells] using hf2)
    simp at eT eU
    rw [eT, eU]
    exact split_law s T U W hT hU hs
  clear hA0 hval0
  refine run.mono fun e W' ⟨he, bel⟩ => ?_
  subst he
  exact ⟨_, rfl, _, _, _, [], _, [], hW', trodAll_mk1 (shut_bool Try.underlying4 _),
    (trodAll_cons_mk (Below.trod Try.laidOut (by kernel_rfl) (of_decide_eq_true (by kernel_rfl)) h0 bel lt0)
    (trodAll_cons_mk (Below.trod Try.laidOut (by kernel_rfl) (of_decide_eq_true (by kernel_rfl)) h1 bel lt1)
    (trodAll_cons_mk (Below.trod Try.laidOut (by kernel_rfl) (of_decide_eq_true (by kernel_rfl)) h2 bel lt2) trodAll_mk0))), rfl, bel.frame _, fun h => by cases h⟩

/-- THE STATEMENT -/
theorem fnConjunctsSplitsOnlyAnd_holds : Rows.FnConjunctsSplitsOnlyAndSaid :=
  OpenClaim.holds_of_wide 4 Try.f4 rfl rfl rfl rfl rfl rfl rfl ⟨rfl, rfl, rfl, rfl, rfl⟩ rfl rfl rfl rfl rfl (by kernel_rfl) Try.func4 (by kernel_rfl)
    (of_decide_eq_true (by kernel_rfl)) (by unfold Func.isWrapper; rw [if_neg (of_decide_eq_false (by kernel_rfl))]; exact ⟨rfl, rfl⟩)
    (fun os started H enc _ => split_lifted os started H enc)
end Go.Proofs.Qxb6616491a
