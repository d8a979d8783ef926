import Derived.Test.Qxb6616724aFmtRows
import Derived.Test.Qxb6616724aFmtLaw
import Derived.ProofKit
import Derived.ChangeSlices
import Derived.ChangeSame
import Derived.ChangeMaps5
import Derived.JoinedOf
import Derived.Carry
import Derived.Stop.JoinedAt
import Derived.Stop.Texts
import Derived.Stop.JoinedTold
import Derived.SizedLaws
import Derived.OpenShut
import Derived.Deep.Matrix
namespace Go.Proofs.Qxb6616724aFmt
open Go.ChangeShapes Go.WideShapes Go.ChangeAt Go.RowKit Go.Kit
open Go.Extern.Stop Go.Stop Go.Extern

theorem Tryf.own : ownKnob Tryf.prog.godebug = none := by kernel_rfl
theorem Tryf.laidOut : laidOutB Tryf.pinned.checked.prog = true := by kernel_rfl
theorem Tryf.cells5 : Tryf.prog.cellsOf 5 = 1 := by kernel_rfl
theorem Tryf.cells26 : Tryf.prog.cellsOf 26 = 1 := by kernel_rfl
theorem Tryf.cells30 : Tryf.prog.cellsOf 30 = 1 := by kernel_rfl

theorem cell_none (W : World) (b o : Nat) (h : W.heap.size ≤ b) : W.cell? ⟨b, o, none⟩ = none := by
  simp [World.cell?, Array.getElem?_eq_none h]
theorem plain_cell {W : World} {a : Addr} {v v0 : Value} {i : Nat} (h0 : W.cell? (a.add 0) = some v0) (h : W.cell? (a.add i) = some v) : ∃ b off, a = ⟨b, off, none⟩ ∧ b < W.heap.size ∧ W.cell? ⟨b, off + i, none⟩ = some v := by
  obtain ⟨b, off, spot⟩ := a
  have hspot : spot = none := by
    have := World.cell?_spot h0
    simpa [Addr.add] using this
  subst hspot
  rw [add_plain] at h
  refine ⟨b, off, rfl, ?_, h⟩
  rcases Nat.lt_or_ge b W.heap.size with hb | hb
  · exact hb
  · rw [cell_none W b _ hb] at h
    cases h
theorem byte_wf {x : Int} (h : (Lit.int .u8 x).wf = true) : 0 ≤ x ∧ x < 256 := by
  have h1 : IntKind.u8.min = 0 := by decide
  have h2 : IntKind.u8.max = 255 := by decide
  simp [Lit.wf, h1, h2] at h
  omega

/-- an argument: a slice of slices of bytes -/
theorem names_arg {H : Type} {enc : TypeId × Value → H} {W : World} {fuel : Nat} {v : Value} {x : DataW H × List MemPlace} {held : Bool} {base : Nat}
    (hw : Value.okWide Tryf.prog W .any base 22 v)
    (hf : DataW.trod enc Tryf.prog W 0 (fun _ => true) held fuel 22 v.cells.toList = some x) :
    ∃ a n c vs, v = .slice a n c ∧ NS W a n vs := by
  obtain ⟨a0, len, cap, rfl⟩ := okWide_slice Tryf.underlying22 hw
  rcases Go.Deep.open_int_rows Tryf.underlying22 Tryf.underlying30 Tryf.underlying5 Tryf.cells30 Tryf.cells5 hf with ⟨hcs, hx⟩ | ⟨a, len', cap', A, L, C, Z, hcs, _, hl, hm, hx, hrow⟩
  · simp [Value.cells] at hcs
    obtain ⟨rfl, rfl, rfl⟩ := hcs
    exact ⟨_, _, _, [], rfl, rfl, Nat.zero_le _, fun i s h => by simp at h⟩
  · simp [Value.cells] at hcs
    obtain ⟨rfl, rfl, rfl⟩ := hcs
    refine ⟨_, _, _, (List.range len).map (fun r => mkNV (A r) (L r) (C r) ((Z r).take (L r))), rfl, by simp, by omega, ?_⟩
    intro i s hs
    have hi : i < len := by
      rcases Nat.lt_or_ge i len with h | h
      · exact h
      · rw [List.getElem?_eq_none (by simp; omega)] at hs; cases hs
    have es : s = mkNV (A i) (L i) (C i) ((Z i).take (L i)) := by
      simp [hi] at hs
      exact hs.symm
    subst es
    obtain ⟨h1, h2, h3, h4, h5, h6, h7⟩ := hrow i (by omega)
    obtain ⟨b, off, rfl, hb, hc⟩ := plain_cell (hrow 0 (by omega)).1 h1
    refine ⟨⟨?_, h2, h3, ?_⟩, b, off, rfl, hb, hc⟩
    · show ((Z i).take (L i)).length = L i
      simp
      omega
    · intro k y hy
      replace hy : ((Z i).take (L i))[k]? = some y := hy
      have hk : k < L i := by
        rcases Nat.lt_or_ge k (L i) with h | h
        · exact h
        · rw [List.getElem?_eq_none (by simp; omega)] at hy; cases hy
      rw [List.getElem?_take_of_lt hk] at hy
      refine ⟨byte_wf (h5 y (List.mem_of_getElem? hy)), ?_⟩
      cases hA : A i with
      | none =>
        have := h6 hA
        omega
      | some a' =>
        obtain ⟨_, h8⟩ := h7 a' hA
        have h9 := h8 k (by omega)
        rw [List.getD, hy] at h9
        obtain ⟨b', off', rfl, hb', hc'⟩ := plain_cell (h8 0 (by omega)) h9
        exact ⟨b', off', rfl, hb', hc'⟩

theorem modes_arg {H : Type} {enc : TypeId × Value → H} {W : World} {fuel : Nat} {v : Value} {x : DataW H × List MemPlace} {held : Bool} {base : Nat}
    (hw : Value.okWide Tryf.prog W .any base 23 v)
    (hf : DataW.trod enc Tryf.prog W 0 (fun _ => true) held fuel 23 v.cells.toList = some x) :
    ∃ a n c ms, v = .slice a n c ∧ MS W a n ms := by
  obtain ⟨a0, len, cap, rfl⟩ := okWide_slice Tryf.underlying23 hw
  rcases open_ints Tryf.underlying23 Tryf.underlying26 Tryf.cells26 hf with ⟨hcs, hx⟩ | ⟨a, len', cap', zs, hcs, _, hl, hm, hz, hx, hcell, hwz⟩
  · simp [Value.cells] at hcs
    obtain ⟨rfl, rfl, rfl⟩ := hcs
    exact ⟨_, _, _, [], rfl, rfl, Nat.zero_le _, fun i s h => by simp at h⟩
  · simp [Value.cells] at hcs
    obtain ⟨rfl, rfl, rfl⟩ := hcs
    simp only [if_true] at hz
    refine ⟨_, _, _, zs.take len, rfl, by simp; omega, by omega, ?_⟩
    intro i s hs
    have hi : i < len := by
      rcases Nat.lt_or_ge i len with h | h
      · exact h
      · rw [List.getElem?_eq_none (by simp; omega)] at hs; cases hs
    rw [List.getElem?_take_of_lt hi] at hs
    have h9 := hcell i (by omega)
    rw [List.getD, hs] at h9
    obtain ⟨b', off', rfl, hb', hc'⟩ := plain_cell (hcell 0 (by omega)) h9
    exact ⟨b', off', rfl, hb', hc'⟩

set_option maxRecDepth 100000 in
theorem law_lifted (os : Os) (started : os.Started) (H : Type) (enc : TypeId × Value → H) :
    ReturnsInTold none {} Tryf.checked os 3 .any Input.okWide ((OpenSpec.ofChange Rows.fnFollowsRefusesATreeNamedAsAnEarlierFileSpec).preRow enc Tryf.prog Tryf.f3 [] false []) (fun F => ((OpenSpec.ofChange Rows.fnFollowsRefusesATreeNamedAsAnEarlierFileSpec).at F).post enc Tryf.prog Tryf.f3 false true false false) (aloneAtReturn Tryf.prog) nothingAlways := by
  refine returnsInTold_of_row (C := Tryf.checked) (s := OpenSpec.ofChange Rows.fnFollowsRefusesATreeNamedAsAnEarlierFileSpec) (by kernel_rfl) Tryf.own started (by kernel_rfl) Tryf.func3
    (OpenSpec.witness_stopped (enc := enc) (C := Tryf.checked) false ⟨#[], #[.slice none 0 0, .slice none 0 0, .int .i64 0], []⟩ 8 (by kernel_rfl) (by kernel_rfl) (by kernel_rfl) (by kernel_rfl)) ?_
  intro F W base args ds gs before _ hF hval0 hW _ _ hsz _ _
  have hval : ∀ (j : Nat) t v, Tryf.f3.params[j]? = some t → args[j]? = some v → Value.okWide Tryf.prog W .any base t v := hval0
  have hW' := hW
  obtain ⟨p, q, hA0, hV, rfl, _, _⟩ := hW
  have hA : DataW.TrodAll enc Tryf.prog W 0 (fun _ => true) true Tryf.f3.params.toList args.toList ds p := hA0
  rw [Tryf.params3] at hA hval
  obtain ⟨v0, vs0, d0, ds0, p0, q0, hargs, rfl, rfl, h0, r0⟩ := trodAll_cons hA
  obtain ⟨v1, vs1, d1, ds1, p1, q1, rfl, rfl, rfl, h1, r1⟩ := trodAll_cons r0
  obtain ⟨v2, vs2, d2, ds2, p2, q2, rfl, rfl, rfl, h2, r2⟩ := trodAll_cons r1
  obtain ⟨rfl, rfl, rfl⟩ := trodAll_nil r2
  obtain rfl : args = #[v0, v1, v2] := by cases args; simp_all
  obtain ⟨rfl, rfl⟩ := trodVars_none hV
  have lt0 : ∀ x ∈ p0, x.block < W.heap.size := by obtain ⟨m, hm⟩ := h0; exact DataW.trod_lt m _ _ _ hm
  have lt1 : ∀ x ∈ p1, x.block < W.heap.size := by obtain ⟨m, hm⟩ := h1; exact DataW.trod_lt m _ _ _ hm
  have lt2 : ∀ x ∈ p2, x.block < W.heap.size := by obtain ⟨m, hm⟩ := h2; exact DataW.trod_lt m _ _ _ hm
  have run : Calls Tryf.prog 3 #[v0, v1, v2] W fun e w' => e = .returned (.bool true) ∧ Below W.heap.size W w' := by
    obtain ⟨f0, g0⟩ := h0
    obtain ⟨a0, n0, c0, s0, rfl, k0⟩ := names_arg (hval 0 22 v0 rfl rfl) g0
    obtain ⟨f1, g1⟩ := h1
    obtain ⟨a1, n1, c1, s1, rfl, k1⟩ := modes_arg (hval 1 23 v1 rfl rfl) g1
    obtain ⟨j, rfl, _⟩ := okWide_int Tryf.underlying3 (hval 2 3 v2 rfl rfl)
    exact law_any F.told a0 a1 n0 c0 n1 c1 j s0 s1 W k0 k1 hF
  clear hA0 hval0
  refine run.mono fun e W' ⟨he, bel⟩ => ?_
  subst he
  exact ⟨_, rfl, _, _, _, [], _, [], hW', trodAll_mk1 (shut_bool Tryf.underlying4 _),
    (trodAll_cons_mk (Below.trod Tryf.laidOut (by kernel_rfl) (of_decide_eq_true (by kernel_rfl)) h0 bel lt0)
    (trodAll_cons_mk (Below.trod Tryf.laidOut (by kernel_rfl) (of_decide_eq_true (by kernel_rfl)) h1 bel lt1)
    (trodAll_cons_mk (Below.trod Tryf.laidOut (by kernel_rfl) (of_decide_eq_true (by kernel_rfl)) h2 bel lt2)
    trodAll_mk0))), rfl, bel.frame _, fun h => by cases h⟩
end Go.Proofs.Qxb6616724aFmt
