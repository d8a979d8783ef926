import Derived.Test.Qxb6616476aAdd
import Derived.Test.Qxb6616476aMul
import Derived.Test.Qxb6616476aCmp
import Derived.Test.Qxb6616476aShl
import Derived.Test.Qxb6616476aFrac
namespace Go.Proofs.Qxb6616476a
open Go.RowKit Go.Lib

/-- the 24 cells of a number -/
def NA (x : Int) : Array Value := ((Dg 24 x).map (Value.int .u32)).toArray
theorem NA_size (x : Int) : (NA x).size = 24 := by simp [NA, Dg_len]
theorem NA_len (x : Int) : (NA x).toList.length = 24 := by simp [NA, Dg_len]
theorem NA_ones (x : Int) : (NA x).all (·.oneCell') = true := row_ones _
theorem NA_nv (x : Int) : nv (Dg 24 x) = .agg (NA x) := rfl
theorem NA_info (x : Int) : (Try.prog.info? 73).map (·.size) = some (NA x).size := by rw [NA_size]; exact Try.size73
theorem NA_info' (x : Int) : (Try.prog.info? 73).map (·.size) = some (NA x).toList.length := by rw [NA_len]; exact Try.size73

theorem BB24 : BB 24 = 1552518092300708935148979488462502555256886017116696611139052038026050952686376886330878408828646477950487730697131073206171580044114814391444287275041181139204454976020849905550265285631598444825262999193716468750892846853816057856 := by decide
theorem ofW (x : Int) (hx : Word x) (w : World) : Calls Try.prog 19 #[.int .u64 x] w fun e w' => e = .returned (.agg (NA x)) ∧ Below w.heap.size w w' := by
  refine (natOf_any x hx w).mono ?_
  rintro e w' ⟨rfl, hb⟩
  refine ⟨?_, hb⟩
  rw [← NA_nv]
  congr 2
  refine Dg_unique 24 _ x 0 rfl ?_ ?_
  · obtain ⟨h1, h2⟩ := hx
    intro d hd
    simp only [List.mem_cons, List.not_mem_nil, or_false] at hd
    omega
  · simp only [val]
    omega
theorem of128 (hi lo : Int) (hh : Word hi) (hl : Word lo) (w : World) : Calls Try.prog 18 #[.int .u64 hi, .int .u64 lo] w fun e w' => e = .returned (.agg (NA (V2 hi lo))) ∧ Below w.heap.size w w' := by
  refine (natOf128_any hi lo hh hl w).mono ?_
  rintro e w' ⟨rfl, hb⟩
  refine ⟨?_, hb⟩
  rw [← NA_nv]
  congr 2
  refine Dg_unique 24 _ _ 0 rfl ?_ ?_
  · obtain ⟨h1, h2⟩ := hh
    obtain ⟨h3, h4⟩ := hl
    intro d hd
    simp only [List.mem_cons, List.not_mem_nil, or_false] at hd
    omega
  · simp only [val]
    unfold V2
    omega
theorem mulN (x y : Int) (w : World) : Calls Try.prog 20 #[.agg (NA x), .agg (NA y)] w fun e w' => e = .returned (.agg (NA (x * y))) ∧ Below w.heap.size w w' := by
  refine (natMul_any (Dg 24 x) (Dg 24 y) (Dg_len _ _) (Dg_len _ _) (Dg_digs _ _) (Dg_digs _ _) w).mono ?_
  rintro e w' ⟨⟨zs, rfl, hl, hd, K, hK⟩, hb⟩
  exact ⟨by rw [Dg_mul hl hd hK]; rfl, hb⟩
theorem addN (x y : Int) (w : World) : Calls Try.prog 22 #[.agg (NA x), .agg (NA y)] w fun e w' => e = .returned (.agg (NA (x + y))) ∧ Below w.heap.size w w' := by
  refine (natAdd_any (Dg 24 x) (Dg 24 y) (Dg_len _ _) (Dg_len _ _) (Dg_digs _ _) (Dg_digs _ _) w).mono ?_
  rintro e w' ⟨⟨zs, rfl, hl, hd, K, hK⟩, hb⟩
  exact ⟨by rw [Dg_add hl hd hK]; rfl, hb⟩
theorem shlN (x : Int) (w : World) : Calls Try.prog 23 #[.agg (NA x)] w fun e w' => e = .returned (.agg (NA (x * 340282366920938463463374607431768211456))) ∧ Below w.heap.size w w' := by
  refine (natShl_any (Dg 24 x) (Dg_len _ _) (Dg_digs _ _) w).mono ?_
  rintro e w' ⟨⟨zs, rfl, hl, hd, hK⟩, hb⟩
  exact ⟨by rw [Dg_shl hl hd hK]; rfl, hb⟩
theorem cmpN (x y : Int) (hx : 0 ≤ x ∧ x < BB 24) (hy : 0 ≤ y ∧ y < BB 24) (w : World) : Calls Try.prog 21 #[.agg (NA x), .agg (NA y)] w fun e w' => e = .returned (.int .i64 (cmpI x y)) ∧ Below w.heap.size w w' := by
  refine (natCmp_any (Dg 24 x) (Dg 24 y) (Dg_len _ _) (Dg_len _ _) (Dg_digs _ _) (Dg_digs _ _) w).mono ?_
  rintro e w' ⟨rfl, hb⟩
  exact ⟨by rw [Dg_val_eq hx, Dg_val_eq hy], hb⟩
end Go.Proofs.Qxb6616476a
