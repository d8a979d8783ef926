import Derived.Test.Qxb6616724aFmtErr
import Derived.Deep.OwnRows
import Derived.Deep.AppendLies
import Derived.WalkSmall
namespace Go.Proofs.Qxb6616724aFmt
open Go.RowKit Go.Extern.Stop Go.Stop Go.Extern

/-- the tree's box: the entry given last (its name, its mode), the files, how many are shared -/
def treeC (ln : Value) (lm : Int) (fv : Value) (fu : Int) : Array Value :=
  #[.slice none 0 0, .slice none 0 0, .int .i64 0, ln, .int .u32 lm, .slice none 0 0, .slice none 0 0, .int .u32 0, .slice none 0 0, .int .i64 0, fv, .int .i64 fu, .nilIface]
def TreeBox (w : World) (T : Nat) (ln : Value) (lm : Int) (fv : Value) (fu : Int) : Prop := w.heap[T]? = some (.cells (treeC ln lm fv fu) 45 (0, 0))

theorem TreeBox.cell {w : World} {T : Nat} {ln fv : Value} {lm fu : Int} (h : TreeBox w T ln lm fv fu) (o : Nat) : w.cell? ⟨T, o, none⟩ = (treeC ln lm fv fu)[o]? := by
  unfold TreeBox at h
  simp [World.cell?, h]
theorem TreeBox.frozen {w : World} {T : Nat} {ln fv : Value} {lm fu : Int} (h : TreeBox w T ln lm fv fu) (o : Nat) : w.frozen? ⟨T, o, none⟩ = false := by
  unfold TreeBox at h
  simp [World.frozen?, h]
theorem TreeBox.lt {w : World} {T : Nat} {ln fv : Value} {lm fu : Int} (h : TreeBox w T ln lm fv fu) : T < w.heap.size := (Array.getElem?_eq_some_iff.1 h).1
theorem TreeBox.of_block {w w' : World} {T : Nat} {ln fv : Value} {lm fu : Int} (h : TreeBox w T ln lm fv fu) (e : w'.heap[T]? = w.heap[T]?) : TreeBox w' T ln lm fv fu := e.trans h
theorem TreeBox.setFiles {w : World} {T : Nat} {ln fv : Value} {lm fu : Int} (h : TreeBox w T ln lm fv fu) (v : Value) : TreeBox (w.setCell ⟨T, 10, none⟩ v) T ln lm v fu := by
  unfold TreeBox at *
  simp [World.setCell, Array.getElem?_modify, h, treeC]
theorem TreeBox.setShared {w : World} {T : Nat} {ln fv : Value} {lm fu : Int} (h : TreeBox w T ln lm fv fu) (v : Int) : TreeBox (w.setCell ⟨T, 11, none⟩ (.int .i64 v)) T ln lm fv v := by
  unfold TreeBox at *
  simp [World.setCell, Array.getElem?_modify, h, treeC]

theorem TreeBox.setLast {w : World} {T : Nat} {ln fv : Value} {lm fu : Int} (h : TreeBox w T ln lm fv fu) (v : Value) (m : Int) :
    TreeBox (((w.setCell ⟨T, 3, none⟩ v).setCell ⟨T, 4, none⟩ (.int .u32 m)).setCell ⟨T, 5, none⟩ (.slice none 0 0)) T v m fv fu := by
  unfold TreeBox at *
  simp [World.setCell, Array.getElem?_modify, h, treeC]

set_option maxHeartbeats 1000000 in
theorem newTree_any (w : World) : Calls Tryf.prog 13 #[] w fun e w' => e = .returned (.pointer (some ⟨w.heap.size, 0, none⟩)) ∧ TreeBox w' w.heap.size (.slice none 0 0) 0 (.slice none 0 0) 0 ∧ Below w.heap.size w w' := by
  go_enter Tryf.func13, Tryf.ntmps13
  go_wp2_with fail
  go_ret
  exact ⟨rfl, Go.Deep.blk_alloc_new _ _, (Below.refl _ _).alloc (Nat.le_refl _) _⟩

set_option maxHeartbeats 1000000 in
theorem setTaken_any (T : Nat) (ln fv nv : Value) (lm fu m : Int) (w : World) (h : TreeBox w T ln lm fv fu) (hnv : ∃ a n c, nv = .slice a n c) :
    Calls Tryf.prog 15 #[.pointer (some ⟨T, 0, none⟩), nv, .int .u32 m] w fun e w' => e = .returned (.tuple #[]) ∧ TreeBox w' T nv m fv fu ∧ ∀ B, B ≤ T → Below B w w' := by
  obtain ⟨a, n, c, rfl⟩ := hnv
  have h9 : w.cell? ⟨T, 9, none⟩ = some (.int .i64 0) := h.cell 9
  have h3 : w.cell? ⟨T, 3, none⟩ = some ln := h.cell 3
  have h4 : w.cell? ⟨T, 4, none⟩ = some (.int .u32 lm) := h.cell 4
  have h5 : w.cell? ⟨T, 5, none⟩ = some (.slice none 0 0) := h.cell 5
  have z3 := h.frozen 3
  have z4 := h.frozen 4
  have z5 := h.frozen 5
  have H : Hid (TreeBox w T ln lm fv fu) := h
  clear h
  go_enter Tryf.func15, Tryf.ntmps15
  go_wp2_with fail
  go_region
  go_end0
  refine ⟨rfl, ?_, fun B hB => ((((Below.refl B w).setCell (p := ⟨T, 3, none⟩) hB _).setCell (p := ⟨T, 4, none⟩) hB _).setCell (p := ⟨T, 5, none⟩) hB _).drew⟩
  exact ((H.out.setLast _ m)).of_block rfl
end Go.Proofs.Qxb6616724aFmt
