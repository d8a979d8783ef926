import Derived.Test.Qxb6616491aDoorLaw
import Derived.Test.Qxb6616491aDoorTie
import Derived.Test.Qxb6616491aDoorCards
import Derived.ProofKit
import Derived.ShutString
import Derived.ChangeSame
import Derived.ChangeVars
import Derived.JoinedOf
import Derived.RowKit
import Derived.RowKitTokens
import Derived.LaidLaws
import Derived.LaidHandle
import Derived.Stop.Joined
import Derived.Stop.LaidErr
import Derived.Stop.LaidTwo
import Derived.WalkSmall
namespace Go.Proofs.Qxb6616491aDoor
open Go.ChangeShapes Go.WideShapes Go.ChangeAt Go.RowKit
open Go.Extern.Stop Go.Stop Go.Extern
open Go.ChangeMaps (open_string shut_string)

/-- the two variables' names, as the given specification lists them -/
def nD : String := Rows.fnFailureOutcomeSurvivesWrappingSpec.vars.getD 0 default
def nC : String := Rows.fnFailureOutcomeSurvivesWrappingSpec.vars.getD 1 default
/-- the type's name, as the given datum bears it -/
def nE : String := match (Rows.laid_example_com_lockspell_lockspell_store_ErrCannotHold : DataW Unit) with
  | .iface n _ => n
  | _ => default
theorem Tryd.own : ownKnob Tryd.prog.godebug = none := by kernel_rfl
theorem Tryd.gD : Tryd.prog.globalNamed nD = some 0 := by kernel_rfl
theorem Tryd.gC : Tryd.prog.globalNamed nC = some 1 := by kernel_rfl
theorem Tryd.gDType : (Tryd.prog.globals[0]?).map (·.type) = some 26 := by kernel_rfl
theorem Tryd.gCType : (Tryd.prog.globals[1]?).map (·.type) = some 26 := by kernel_rfl
theorem Tryd.cells35 : Tryd.prog.cellsOf 35 = 1 := by kernel_rfl
theorem Tryd.cells9 : Tryd.prog.cellsOf 9 = 1 := by kernel_rfl
theorem Tryd.row33 (u : TypeId) (h : Tryd.prog.typeName? 3 u = some nE) : u = 33 :=
  typeName_ptr_named (nm := "errors.errorString") (by kernel_rfl) (by kernel_rfl) (by decide) u (h.trans (by kernel_rfl))

theorem laid_met (os : Os) (args : Array Value) : laidMetH Tryd.prog Rows.fnFailureOutcomeSurvivesWrappingRow.laid (({ World.holding Tryd.prog os ⟨#[.cells #[.string { data := #[100, 117, 112, 108, 105, 99, 97, 116, 101, 32, 107, 101, 121] }] 35, .cells #[.string { data := #[97, 32, 118, 97, 108, 117, 101, 32, 116, 104, 97, 116, 32, 116, 104, 101, 32, 99, 111, 108, 117, 109, 110, 32, 99, 97, 110, 110, 111, 116, 32, 104, 111, 108, 100] }] 35], #[], []⟩ with heap := ((World.holding Tryd.prog os ⟨#[.cells #[.string { data := #[100, 117, 112, 108, 105, 99, 97, 116, 101, 32, 107, 101, 121] }] 35, .cells #[.string { data := #[97, 32, 118, 97, 108, 117, 101, 32, 116, 104, 97, 116, 32, 116, 104, 101, 32, 99, 111, 108, 117, 109, 110, 32, 99, 97, 110, 110, 111, 116, 32, 104, 111, 108, 100] }] 35], #[], []⟩).heap.modify 0 fun | .cells _ t frozen => .cells #[.iface 33 (.pointer (some ⟨(World.holding Tryd.prog default ⟨#[], #[], []⟩).heap.size, 0, none⟩))] t frozen | o => o).modify 1 fun | .cells _ t frozen => .cells #[.iface 33 (.pointer (some ⟨(World.holding Tryd.prog default ⟨#[], #[], []⟩).heap.size + 1, 0, none⟩))] t frozen | o => o } : World).forCall (fun _ _ => 0) ⟨#[], args, []⟩).memory :=
  laidMet_of_run' 8 (by kernel_rfl) (by kernel_rfl)

set_option maxRecDepth 100000 in
theorem door_lifted (os : Os) (started : os.Started) (H : Type) (enc : TypeId × Value → H) :
    ReturnsInHanded {} Tryd.checked os 3 .any (fun w args => (Rows.fnFailureOutcomeSurvivesWrappingSpec.pre enc Tryd.prog Tryd.f3 [] false w args ∧ laidMetH Tryd.prog Rows.fnFailureOutcomeSurvivesWrappingRow.laid w) ∧ sizedMet enc Tryd.prog Tryd.f3 (OpenSpec.ofChange Rows.fnFailureOutcomeSurvivesWrappingSpec) false w args)
      (Rows.fnFailureOutcomeSurvivesWrappingSpec.post enc Tryd.prog Tryd.f3 false true false false) := by
  refine returnsInHanded_of_change_and (C := Tryd.checked) (X := fun w _ => laidMetH Tryd.prog Rows.fnFailureOutcomeSurvivesWrappingRow.laid w) (fun _ _ _ hh h => h.of_heap hh) Tryd.own started (by kernel_rfl) Tryd.func3
    (ChangeSpec.witness_at (enc := enc) (C := Tryd.checked) (os := os) (X := fun w _ => laidMetH Tryd.prog Rows.fnFailureOutcomeSurvivesWrappingRow.laid w) false ({ World.holding Tryd.prog os ⟨#[.cells #[.string { data := #[100, 117, 112, 108, 105, 99, 97, 116, 101, 32, 107, 101, 121] }] 35, .cells #[.string { data := #[97, 32, 118, 97, 108, 117, 101, 32, 116, 104, 97, 116, 32, 116, 104, 101, 32, 99, 111, 108, 117, 109, 110, 32, 99, 97, 110, 110, 111, 116, 32, 104, 111, 108, 100] }] 35], #[], []⟩ with heap := ((World.holding Tryd.prog os ⟨#[.cells #[.string { data := #[100, 117, 112, 108, 105, 99, 97, 116, 101, 32, 107, 101, 121] }] 35, .cells #[.string { data := #[97, 32, 118, 97, 108, 117, 101, 32, 116, 104, 97, 116, 32, 116, 104, 101, 32, 99, 111, 108, 117, 109, 110, 32, 99, 97, 110, 110, 111, 116, 32, 104, 111, 108, 100] }] 35], #[], []⟩).heap.modify 0 fun | .cells _ t frozen => .cells #[.iface 33 (.pointer (some ⟨(World.holding Tryd.prog default ⟨#[], #[], []⟩).heap.size, 0, none⟩))] t frozen | o => o).modify 1 fun | .cells _ t frozen => .cells #[.iface 33 (.pointer (some ⟨(World.holding Tryd.prog default ⟨#[], #[], []⟩).heap.size + 1, 0, none⟩))] t frozen | o => o } : World) #[.string ⟨#[]⟩, .string ⟨#[]⟩] 8 rfl (by kernel_rfl) (by kernel_rfl) (by kernel_rfl) (by kernel_rfl) (by kernel_rfl) (laid_met os _)) ?_
  intro W base args ds gs before hval0 hW _ _ hL _
  have hval : ∀ (j : Nat) t v, Tryd.f3.params[j]? = some t → args[j]? = some v → Value.okWide Tryd.prog W .any base t v := hval0
  have hW' := hW
  obtain ⟨p, q, hA0, hV0, rfl, hfz, hnd⟩ := hW
  have hA : DataW.TrodAll enc Tryd.prog W 0 (fun _ => true) true Tryd.f3.params.toList args.toList ds p := hA0
  have hV : DataW.TrodVars enc Tryd.prog W (fun _ => true) [nD, nC] gs q := hV0
  rw [Tryd.params3] at hA hval
  obtain ⟨v0, v1, d0, d1, p0, p1, rfl, rfl, rfl, h0, h1⟩ := trodAll_two hA
  obtain ⟨a, rfl, rfl, rfl, ha⟩ := open_string Tryd.underlying9 (hval 0 9 v0 rfl rfl) h0
  obtain ⟨b, rfl, rfl, rfl, hb⟩ := open_string Tryd.underlying9 (hval 1 9 v1 rfl rfl) h1
  have hL' : laidMet Tryd.prog Rows.fnFailureOutcomeSurvivesWrappingRow.laid W := hL
  obtain ⟨ac, ad, s0, s1, c0, c1, t0, t1, hvc, hvd, hc0, hs0, hz0, hc1, hs1, hz1, hne, hb0, hb1⟩ := laid_sentinels2 hL' Tryd.gC Tryd.gCType Tryd.gD Tryd.gDType Tryd.underlying26 Tryd.row33 Tryd.underlying33 Tryd.underlying35 rfl rfl Tryd.underlying9 Tryd.cells35 Tryd.cells9
  have vr : ∀ {X : World}, X.var? Tryd.prog nD = some #[.iface 33 (.pointer (some ad))] → X.var? Tryd.prog nC = some #[.iface 33 (.pointer (some ac))] → ∀ sp : Nat → Bool,
      DataW.TrodVars enc Tryd.prog X sp [nD, nC] [tok enc (.iface 33 (.pointer (some ad))), tok enc (.iface 33 (.pointer (some ac)))] [.cell 0 0, .cell 1 0] :=
    fun x0 x1 sp => vars_read2 enc Tryd.gD Tryd.gDType Tryd.underlying26 x0 trivial Tryd.gC Tryd.gCType Tryd.underlying26 x1 trivial sp
  obtain ⟨rfl, rfl⟩ := hV.unique (vr hvd hvc _)
  have hg0 : W.cell? ⟨0, 0, none⟩ = some (.iface 33 (.pointer (some ad))) := by simpa using World.var?_cell Tryd.gD hvd 0
  have hg1 : W.cell? ⟨1, 0, none⟩ = some (.iface 33 (.pointer (some ac))) := by simpa using World.var?_cell Tryd.gC hvc 0
  have z1 : 1 < W.heap.size := World.block_lt_of_cell? _ _ hg1
  clear hA0 hV0 hval0
  have e1 : Rows.fnFailureOutcomeSurvivesWrappingSpec.fn H ([.lit (.string a.data.toList), .lit (.string b.data.toList)] ++ [tok enc (.iface 33 (.pointer (some ad))), tok enc (.iface 33 (.pointer (some ac)))]) = { results := [.lit (.bool true)], args := [.lit (.string a.data.toList), .lit (.string b.data.toList)], vars := [tok enc (.iface 33 (.pointer (some ad))), tok enc (.iface 33 (.pointer (some ac)))] } := rfl
  refine (law_any a b ad ac W ha hb ⟨hg0, hg1, ⟨_, _, hb1⟩, ⟨_, _, hb0⟩, z1⟩ (Ne.symm hne)).mono fun e W' ⟨he, bel⟩ => ?_
  subst he
  refine ⟨_, rfl, _, _, _, [], [], [.cell 0 0, .cell 1 0], hW', ?_, ?_, ?_, bel.frame _, fun h => by cases h⟩
  · rw [e1]; exact trodAll_mk1 (shut_bool Tryd.underlying4 true)
  · rw [e1]; exact trodAll_mk2 (shut_string Tryd.underlying9 ha) (shut_string Tryd.underlying9 hb)
  · rw [e1]; exact vr (var?_below bel Tryd.gD (by omega) hvd) (var?_below bel Tryd.gC z1 hvc) _

theorem fnFailureOutcomeSurvivesWrapping_row : Rows.FnFailureOutcomeSurvivesWrappingSaid :=
  OpenClaim.holds_of_wide 3 Tryd.f3 rfl rfl rfl rfl rfl rfl rfl ⟨rfl, rfl, rfl, rfl, rfl⟩ rfl rfl rfl rfl rfl (by kernel_rfl) Tryd.func3 (by kernel_rfl)
    (of_decide_eq_true (by kernel_rfl)) (by unfold Func.isWrapper; rw [if_neg (of_decide_eq_false (by kernel_rfl))]; exact ⟨rfl, rfl⟩)
    (fun os started H enc _ => door_lifted os started H enc)

/-- THE STATEMENT: the tied card -/
theorem fnFailureOutcomeSurvivesWrapping_card_holds : Rows.FnFailureOutcomeSurvivesWrappingCardSaid :=
  Claim7.holds_tied_plain_at .later [] [.sentinel, .sentinel] true (true, "ccb335f2b708015c4a86ae17b00db02d9d896d4594b941e00280f483eecfc5c5") true
    fnFailureOutcomeSurvivesWrapping_row (fun _ h => by cases h) (by kernel_rfl) (fun _ h => by cases h) fnFailureOutcomeSurvivesWrapping_row_tie rfl ⟨rfl, rfl⟩ (by kernel_rfl) rfl
    (fun f fn hf hfn => by
      obtain rfl : f = 3 := Option.some.inj ((show Tryd.prog.funcNamed Rows.fnFailureOutcomeSurvivesWrappingRow.func = some 3 by kernel_rfl).symm.trans hf) |>.symm
      obtain rfl : fn = Tryd.f3 := (Option.some.inj (Tryd.func3.symm.trans hfn)).symm
      exact ⟨by kernel_rfl, fun j t ht => by
        rw [Tryd.params3] at ht
        have h9 : t = 9 := by
          rcases j with _ | _ | j
          · simpa using ht.symm
          · simpa using ht.symm
          · simp at ht
        subst h9
        exact (show Tryd.prog.wantsStandIn 9 = false by kernel_rfl)⟩)
    (by kernel_rfl)
end Go.Proofs.Qxb6616491aDoor
