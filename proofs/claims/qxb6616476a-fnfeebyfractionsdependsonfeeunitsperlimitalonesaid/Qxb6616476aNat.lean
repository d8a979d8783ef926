import Derived.Test.Qxb6616476aMix
import Derived.Deep.MidRow
import Derived.Deep.DeepCutAuto
namespace Go.Proofs.Qxb6616476a
open Go.RowKit Go.Lib

/-- 24 digits, the least first -/
def nv (ds : List Int) : Value := .agg (ds.map (Value.int .u32)).toArray
theorem below_setCells {B g : Nat} {a : World} (hg : B ≤ g) : ∀ (vs : List Value) (o : Nat) (w : World), Below B a w → Below B a (w.setCells g o vs)
  | [], _, _, h => h
  | v :: vs, o, _, h => below_setCells hg vs (o + 1) _ (h.setCell (p := ⟨g, o, none⟩) hg v)
theorem Try.size73 : (Try.prog.info? 73).map (·.size) = some 24 := by kernel_rfl
theorem Blk.range {w : World} {b : Nat} {cs : Array Value} {t : TypeId} (h : Blk w b cs t) : w.rangeAt b 0 cs.toList := fun j v hv => by
  rw [Nat.zero_add, h.cell]
  simpa using hv
theorem Blk.there {w : World} {b : Nat} {cs : Array Value} {t : TypeId} (h : Blk w b cs t) : w.there b 0 cs.size := fun j hj => by
  rw [Nat.zero_add, h.cell, h.froz]
  simp [hj]

set_option maxRecDepth 100000 in
set_option maxHeartbeats 4000000 in
theorem natOf_any (x : Int) (hx : Word x) (w : World) : Calls Try.prog 19 #[.int .u64 x] w fun e w' => e = .returned (nv [x % 4294967296, x / 4294967296, 0, 0, 0, 0, 0, 0, 0, 0, 0, 0, 0, 0, 0, 0, 0, 0, 0, 0, 0, 0, 0, 0]) ∧ Below w.heap.size w w' := by
  obtain ⟨h1, h2⟩ := hx
  have k1 : IntKind.u32.wrap x = x % 4294967296 := by rw [IntKind.wrap_u32]
  have k2 : IntKind.u32.wrap (x / 4294967296) = x / 4294967296 := by rw [IntKind.wrap_u32]; omega
  have hb0 : Below w.heap.size w ((w.alloc (.cells #[.int .u32 0, .int .u32 0, .int .u32 0, .int .u32 0, .int .u32 0, .int .u32 0, .int .u32 0, .int .u32 0, .int .u32 0, .int .u32 0, .int .u32 0, .int .u32 0, .int .u32 0, .int .u32 0, .int .u32 0, .int .u32 0, .int .u32 0, .int .u32 0, .int .u32 0, .int .u32 0, .int .u32 0, .int .u32 0, .int .u32 0, .int .u32 0] 73)).alloc (.cells #[.int .u32 (x % 4294967296), .int .u32 (x / 4294967296), .int .u32 0, .int .u32 0, .int .u32 0, .int .u32 0, .int .u32 0, .int .u32 0, .int .u32 0, .int .u32 0, .int .u32 0, .int .u32 0, .int .u32 0, .int .u32 0, .int .u32 0, .int .u32 0, .int .u32 0, .int .u32 0, .int .u32 0, .int .u32 0, .int .u32 0, .int .u32 0, .int .u32 0, .int .u32 0] 73)) := ((Below.refl _ _).alloc (Nat.le_refl _) _).alloc (by simp) _
  have hA0 : Blk ((w.alloc (.cells #[.int .u32 0, .int .u32 0, .int .u32 0, .int .u32 0, .int .u32 0, .int .u32 0, .int .u32 0, .int .u32 0, .int .u32 0, .int .u32 0, .int .u32 0, .int .u32 0, .int .u32 0, .int .u32 0, .int .u32 0, .int .u32 0, .int .u32 0, .int .u32 0, .int .u32 0, .int .u32 0, .int .u32 0, .int .u32 0, .int .u32 0, .int .u32 0] 73)).alloc (.cells #[.int .u32 (x % 4294967296), .int .u32 (x / 4294967296), .int .u32 0, .int .u32 0, .int .u32 0, .int .u32 0, .int .u32 0, .int .u32 0, .int .u32 0, .int .u32 0, .int .u32 0, .int .u32 0, .int .u32 0, .int .u32 0, .int .u32 0, .int .u32 0, .int .u32 0, .int .u32 0, .int .u32 0, .int .u32 0, .int .u32 0, .int .u32 0, .int .u32 0, .int .u32 0] 73)) w.heap.size #[.int .u32 0, .int .u32 0, .int .u32 0, .int .u32 0, .int .u32 0, .int .u32 0, .int .u32 0, .int .u32 0, .int .u32 0, .int .u32 0, .int .u32 0, .int .u32 0, .int .u32 0, .int .u32 0, .int .u32 0, .int .u32 0, .int .u32 0, .int .u32 0, .int .u32 0, .int .u32 0, .int .u32 0, .int .u32 0, .int .u32 0, .int .u32 0] 73 := (Blk.new _ _ _).alloc _
  have hB0 : Blk ((w.alloc (.cells #[.int .u32 0, .int .u32 0, .int .u32 0, .int .u32 0, .int .u32 0, .int .u32 0, .int .u32 0, .int .u32 0, .int .u32 0, .int .u32 0, .int .u32 0, .int .u32 0, .int .u32 0, .int .u32 0, .int .u32 0, .int .u32 0, .int .u32 0, .int .u32 0, .int .u32 0, .int .u32 0, .int .u32 0, .int .u32 0, .int .u32 0, .int .u32 0] 73)).alloc (.cells #[.int .u32 (x % 4294967296), .int .u32 (x / 4294967296), .int .u32 0, .int .u32 0, .int .u32 0, .int .u32 0, .int .u32 0, .int .u32 0, .int .u32 0, .int .u32 0, .int .u32 0, .int .u32 0, .int .u32 0, .int .u32 0, .int .u32 0, .int .u32 0, .int .u32 0, .int .u32 0, .int .u32 0, .int .u32 0, .int .u32 0, .int .u32 0, .int .u32 0, .int .u32 0] 73)) (w.heap.size + 1) #[.int .u32 (x % 4294967296), .int .u32 (x / 4294967296), .int .u32 0, .int .u32 0, .int .u32 0, .int .u32 0, .int .u32 0, .int .u32 0, .int .u32 0, .int .u32 0, .int .u32 0, .int .u32 0, .int .u32 0, .int .u32 0, .int .u32 0, .int .u32 0, .int .u32 0, .int .u32 0, .int .u32 0, .int .u32 0, .int .u32 0, .int .u32 0, .int .u32 0, .int .u32 0] 73 := by
    have h := Blk.new (w.alloc (.cells #[.int .u32 0, .int .u32 0, .int .u32 0, .int .u32 0, .int .u32 0, .int .u32 0, .int .u32 0, .int .u32 0, .int .u32 0, .int .u32 0, .int .u32 0, .int .u32 0, .int .u32 0, .int .u32 0, .int .u32 0, .int .u32 0, .int .u32 0, .int .u32 0, .int .u32 0, .int .u32 0, .int .u32 0, .int .u32 0, .int .u32 0, .int .u32 0] 73)) #[.int .u32 (x % 4294967296), .int .u32 (x / 4294967296), .int .u32 0, .int .u32 0, .int .u32 0, .int .u32 0, .int .u32 0, .int .u32 0, .int .u32 0, .int .u32 0, .int .u32 0, .int .u32 0, .int .u32 0, .int .u32 0, .int .u32 0, .int .u32 0, .int .u32 0, .int .u32 0, .int .u32 0, .int .u32 0, .int .u32 0, .int .u32 0, .int .u32 0, .int .u32 0] 73
    rw [World.size_alloc] at h
    exact h
  go_enter Try.func19, Try.ntmps19
  go_upto_region 4 with (fail)
  generalize (w.alloc (.cells #[.int .u32 0, .int .u32 0, .int .u32 0, .int .u32 0, .int .u32 0, .int .u32 0, .int .u32 0, .int .u32 0, .int .u32 0, .int .u32 0, .int .u32 0, .int .u32 0, .int .u32 0, .int .u32 0, .int .u32 0, .int .u32 0, .int .u32 0, .int .u32 0, .int .u32 0, .int .u32 0, .int .u32 0, .int .u32 0, .int .u32 0, .int .u32 0] 73)).alloc (.cells #[.int .u32 (x % 4294967296), .int .u32 (x / 4294967296), .int .u32 0, .int .u32 0, .int .u32 0, .int .u32 0, .int .u32 0, .int .u32 0, .int .u32 0, .int .u32 0, .int .u32 0, .int .u32 0, .int .u32 0, .int .u32 0, .int .u32 0, .int .u32 0, .int .u32 0, .int .u32 0, .int .u32 0, .int .u32 0, .int .u32 0, .int .u32 0, .int .u32 0, .int .u32 0] 73) = W at *
  have ht := hA0.there
  have hz : (#[.int .u32 0, .int .u32 0, .int .u32 0, .int .u32 0, .int .u32 0, .int .u32 0, .int .u32 0, .int .u32 0, .int .u32 0, .int .u32 0, .int .u32 0, .int .u32 0, .int .u32 0, .int .u32 0, .int .u32 0, .int .u32 0, .int .u32 0, .int .u32 0, .int .u32 0, .int .u32 0, .int .u32 0, .int .u32 0, .int .u32 0, .int .u32 0] : Array Value).size = 24 := rfl
  rw [hz] at ht
  have hone : (#[.int .u32 (x % 4294967296), .int .u32 (x / 4294967296), .int .u32 0, .int .u32 0, .int .u32 0, .int .u32 0, .int .u32 0, .int .u32 0, .int .u32 0, .int .u32 0, .int .u32 0, .int .u32 0, .int .u32 0, .int .u32 0, .int .u32 0, .int .u32 0, .int .u32 0, .int .u32 0, .int .u32 0, .int .u32 0, .int .u32 0, .int .u32 0, .int .u32 0, .int .u32 0] : Array Value).all (·.oneCell') = true := by simp [Value.oneCell']
  have hsz : (#[.int .u32 (x % 4294967296), .int .u32 (x / 4294967296), .int .u32 0, .int .u32 0, .int .u32 0, .int .u32 0, .int .u32 0, .int .u32 0, .int .u32 0, .int .u32 0, .int .u32 0, .int .u32 0, .int .u32 0, .int .u32 0, .int .u32 0, .int .u32 0, .int .u32 0, .int .u32 0, .int .u32 0, .int .u32 0, .int .u32 0, .int .u32 0, .int .u32 0, .int .u32 0] : Array Value).size = 24 := rfl
  have hnv : (.agg #[.int .u32 (x % 4294967296), .int .u32 (x / 4294967296), .int .u32 0, .int .u32 0, .int .u32 0, .int .u32 0, .int .u32 0, .int .u32 0, .int .u32 0, .int .u32 0, .int .u32 0, .int .u32 0, .int .u32 0, .int .u32 0, .int .u32 0, .int .u32 0, .int .u32 0, .int .u32 0, .int .u32 0, .int .u32 0, .int .u32 0, .int .u32 0, .int .u32 0, .int .u32 0] : Value) = nv [x % 4294967296, x / 4294967296, 0, 0, 0, 0, 0, 0, 0, 0, 0, 0, 0, 0, 0, 0, 0, 0, 0, 0, 0, 0, 0, 0] := rfl
  generalize (#[.int .u32 (x % 4294967296), .int .u32 (x / 4294967296), .int .u32 0, .int .u32 0, .int .u32 0, .int .u32 0, .int .u32 0, .int .u32 0, .int .u32 0, .int .u32 0, .int .u32 0, .int .u32 0, .int .u32 0, .int .u32 0, .int .u32 0, .int .u32 0, .int .u32 0, .int .u32 0, .int .u32 0, .int .u32 0, .int .u32 0, .int .u32 0, .int .u32 0, .int .u32 0] : Array Value) = A at *
  have hr := hB0.range
  have hs1 : (Try.prog.info? 73).map (·.size) = some A.size := by rw [hsz]; exact Try.size73
  have hs2 : (Try.prog.info? 73).map (·.size) = some A.toList.length := by rw [Array.length_toList, hsz]; exact Try.size73
  have ht2 : W.there w.heap.size 0 A.size := by rw [hsz]; exact ht
  have HH : Hid (Below w.heap.size w W ∧ W.rangeAt (w.heap.size + 1) 0 A.toList ∧ W.there w.heap.size 0 A.size ∧ (Try.prog.info? 73).map (·.size) = some A.size ∧ (Try.prog.info? 73).map (·.size) = some A.toList.length ∧ A.all (·.oneCell') = true ∧ .agg A = nv [x % 4294967296, x / 4294967296, 0, 0, 0, 0, 0, 0, 0, 0, 0, 0, 0, 0, 0, 0, 0, 0, 0, 0, 0, 0, 0, 0]) := ⟨hb0, hr, ht2, hs1, hs2, hone, hnv⟩
  clear hb0 hA0 hB0 hr ht ht2 hs1 hs2 hone hnv hsz hz
  go_wp2_with (first
    | (refine wpList_load_mid rfl 73 (.tmp 3) rfl (w.heap.size + 1) 0 rfl A.toList _ HH.out.2.1 Try.underlying73 rfl HH.out.2.2.2.2.1 ?_)
    | (refine wpList_store_mid rfl 73 (.tmp 2) (.tmp 11) rfl w.heap.size 0 A rfl rfl HH.out.2.2.1 HH.out.2.2.2.1 HH.out.2.2.2.2.2.1 ?_))
  have hL : (loadVar 73 ⟨w.heap.size, 0, none⟩).run Try.prog (W.setCells w.heap.size 0 A.toList) = .ok (.agg A) (W.setCells w.heap.size 0 A.toList) := by
    have h := run_loadVar_mid (P := Try.prog) (W.setCells w.heap.size 0 A.toList) w.heap.size 0 73 A.toList _ (World.rangeAt_setCells_same W w.heap.size 0 A.toList (by rw [Array.length_toList]; exact HH.out.2.2.1)) Try.underlying73 rfl HH.out.2.2.2.2.1
    simpa using h
  simp [bodyPost, results, Try.results19]
  exact ⟨.agg A, hL, HH.out.2.2.2.2.2.2, below_setCells (Nat.le_refl _) _ _ _ HH.out.1⟩
end Go.Proofs.Qxb6616476a
