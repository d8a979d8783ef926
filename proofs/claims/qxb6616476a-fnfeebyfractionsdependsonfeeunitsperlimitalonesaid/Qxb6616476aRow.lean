import Derived.Test.Qxb6616476aNat3
import Derived.Test.Qxb6616476aDig
import Derived.Deep.OwnRows
import Derived.BigQuiet
namespace Go.Proofs.Qxb6616476a
open Go.RowKit Go.Lib

/-- block b is a row of 24 digits -/
def Row (w : World) (b : Nat) (ds : List Int) : Prop := w.rowIs b 73 24 (fun i => .int .u32 (ds.getD i 0))
theorem Row.lt {w : World} {b : Nat} {ds : List Int} (h : Row w b ds) : b < w.heap.size := World.rowIs.lt h
theorem Row.cell {w : World} {b : Nat} {ds : List Int} (h : Row w b ds) (hl : ds.length = 24) {i : Nat} (hi : i < 24) : w.cell? ⟨b, i, none⟩ = some (.int .u32 (ds[i]'(by omega))) := by
  have e := World.rowIs.cell h hi
  rw [List.getD_eq_getElem?_getD, List.getElem?_eq_getElem (by omega)] at e
  exact e
theorem Row.froz {w : World} {b : Nat} {ds : List Int} (h : Row w b ds) (i : Nat) : w.frozen? ⟨b, i, none⟩ = false := World.rowIs.frozen h i
theorem Row.set {w : World} {b : Nat} {ds : List Int} (h : Row w b ds) (hl : ds.length = 24) (i : Nat) (x : Int) : Row (w.setCell ⟨b, i, none⟩ (.int .u32 x)) b (ds.set i x) := by
  refine World.rowIs.congr (World.rowIs.set h i (.int .u32 x)) ?_
  intro j hj
  simp only [List.getD_eq_getElem?_getD]
  by_cases e : j = i
  · subst e
    rw [if_pos rfl, List.getElem?_set_self (by omega)]
    rfl
  · rw [if_neg e, List.getElem?_set_ne (Ne.symm e)]
theorem Row.other {w : World} {b : Nat} {ds : List Int} (h : Row w b ds) {a : Addr} (ha : b ≠ a.block) (v : Value) : Row (w.setCell a v) b ds := World.rowIs.setOther h ha v
theorem Row.alloc {w : World} {b : Nat} {ds : List Int} (h : Row w b ds) (o : Obj) : Row (w.alloc o) b ds := World.rowIs.alloc h o
theorem Row.drewN {w : World} {b : Nat} {ds : List Int} (h : Row w b ds) (n : Nat) : Row (w.drewN n) b ds := World.rowIs.of_block h rfl
theorem Row.below {w w' : World} {b : Nat} {ds : List Int} (h : Row w b ds) (hb : Below w.heap.size w w') : Row w' b ds := World.rowIs.of_block h (hb.block _ h.lt)
theorem Row.new (w : World) (ds : List Int) (hl : ds.length = 24) : Row (w.alloc (.cells (ds.map (Value.int .u32)).toArray 73)) w.heap.size ds := by
  have h := World.rowIs_alloc w (ds.map (Value.int .u32)).toArray 73 (fun i => .int .u32 (ds.getD i 0)) (fun i hi => by
    simp at hi
    simp [hi])
  have e : (ds.map (Value.int .u32)).toArray.size = 24 := by simpa using hl
  rw [e] at h
  exact h
theorem Row.range {w : World} {b : Nat} {ds : List Int} (h : Row w b ds) (hl : ds.length = 24) : w.rangeAt b 0 (ds.map (Value.int .u32)) := fun j v hv => by
  have hj : j < 24 := by
    have := (List.getElem?_eq_some_iff.1 hv).1
    simpa [hl] using this
  rw [Nat.zero_add, h.cell hl hj, ← hv]
  simp [hl, hj]
theorem Row.there {w : World} {b : Nat} {ds : List Int} (h : Row w b ds) (hl : ds.length = 24) : w.there b 0 24 := fun j hj => by
  rw [Nat.zero_add, h.cell hl hj, h.froz]
  exact ⟨rfl, rfl⟩
theorem row_ones (ds : List Int) : (ds.map (Value.int .u32)).toArray.all (·.oneCell') = true := all_oneCell_toArray (fun v hv => by
  obtain ⟨x, _, rfl⟩ := List.mem_map.1 hv
  rfl)
def zeros : List Int := List.replicate 24 0
theorem zeros_eq : (#[.int .u32 0, .int .u32 0, .int .u32 0, .int .u32 0, .int .u32 0, .int .u32 0, .int .u32 0, .int .u32 0, .int .u32 0, .int .u32 0, .int .u32 0, .int .u32 0, .int .u32 0, .int .u32 0, .int .u32 0, .int .u32 0, .int .u32 0, .int .u32 0, .int .u32 0, .int .u32 0, .int .u32 0, .int .u32 0, .int .u32 0, .int .u32 0] : Array Value) = (zeros.map (Value.int .u32)).toArray := rfl
theorem zeros_len : zeros.length = 24 := rfl
theorem zeros_digs : Digs zeros := fun d hd => by
  have := List.eq_of_mem_replicate hd
  omega
theorem zeros_val : val zeros = 0 := val_replicate 24
/-- what a function on digits leaves: its row is loaded and stored into the result's box -/
theorem row_result {W : World} {R : Nat} {ds : List Int} (hl : ds.length = 24) (ht : W.there R 0 24) :
    (loadVar 73 ⟨R, 0, none⟩).run Try.prog (W.setCells R 0 (ds.map (Value.int .u32))) = .ok (nv ds) (W.setCells R 0 (ds.map (Value.int .u32))) := by
  have hlen : (ds.map (Value.int .u32)).length = 24 := by rw [List.length_map]; exact hl
  exact run_loadVar_mid (P := Try.prog) _ R 0 73 (ds.map (Value.int .u32)) _ (World.rangeAt_setCells_same W R 0 _ (by rw [hlen]; exact ht)) Try.underlying73 rfl (by rw [hlen]; exact Try.size73)
end Go.Proofs.Qxb6616476a
