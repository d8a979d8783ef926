import Derived.Test.Qxb6616476aRow
namespace Go.Proofs.Qxb6616476a
open Go.RowKit Go.Lib

set_option maxRecDepth 100000 in
set_option maxHeartbeats 4000000 in
theorem natShl_any (xs : List Int) (la : xs.length = 24) (da : Digs xs) (w : World) : Calls Try.prog 23 #[nv xs] w fun e w' => (∃ zs, e = .returned (nv zs) ∧ zs.length = 24 ∧ Digs zs ∧ val zs = BB 4 * val (xs.take 20)) ∧ Below w.heap.size w w' := by
  have HL : Hid (xs.length = 24 ∧ Digs xs) := ⟨la, da⟩
  clear la da
  obtain ⟨A, hA⟩ : ∃ A, A = (xs.map (Value.int .u32)).toArray := ⟨_, rfl⟩
  obtain ⟨Z, hZ⟩ : ∃ Z, Z = (zeros.map (Value.int .u32)).toArray := ⟨_, rfl⟩
  have eA : nv xs = .agg A := by rw [hA]; rfl
  rw [eA]
  have HR : Hid (Row (((w.alloc (.cells A 73)).alloc (.cells Z 73)).alloc (.cells Z 73)) w.heap.size xs ∧ Row (((w.alloc (.cells A 73)).alloc (.cells Z 73)).alloc (.cells Z 73)) (w.heap.size + 1) zeros ∧ Row (((w.alloc (.cells A 73)).alloc (.cells Z 73)).alloc (.cells Z 73)) (w.heap.size + 1 + 1) zeros ∧ Below w.heap.size w (((w.alloc (.cells A 73)).alloc (.cells Z 73)).alloc (.cells Z 73))) := by
    have h1 := Row.new w xs HL.out.1
    have h3 := Row.new (w.alloc (.cells A 73)) zeros zeros_len
    have h4 := Row.new ((w.alloc (.cells A 73)).alloc (.cells Z 73)) zeros zeros_len
    simp only [World.size_alloc, ← hA, ← hZ] at h1 h3 h4
    exact ⟨(h1.alloc _).alloc _, h3.alloc _, h4, by go_grown⟩
  have HZ : Hid ((#[.int .u32 0, .int .u32 0, .int .u32 0, .int .u32 0, .int .u32 0, .int .u32 0, .int .u32 0, .int .u32 0, .int .u32 0, .int .u32 0, .int .u32 0, .int .u32 0, .int .u32 0, .int .u32 0, .int .u32 0, .int .u32 0, .int .u32 0, .int .u32 0, .int .u32 0, .int .u32 0, .int .u32 0, .int .u32 0, .int .u32 0, .int .u32 0] : Array Value) = Z) := by rw [hZ]; exact zeros_eq
  clear eA hA hZ
  go_enter Try.func23, Try.ntmps23
  go_wp2_with fail
  rw [HZ.out]
  generalize (((w.alloc (.cells A 73)).alloc (.cells Z 73)).alloc (.cells Z 73)) = W at *
  go_loopw [4] (fun v4 wx => ∃ (k : Nat) (zs : List Int), v4 = .int .i64 (k + 4) ∧ k ≤ 20 ∧ Hid (zs.length = 24 ∧ Digs zs ∧ val (zs.take (k + 4)) = BB 4 * val (xs.take k) ∧ Below w.heap.size w wx ∧ Row wx w.heap.size xs ∧ Row wx (w.heap.size + 1) zeros ∧ Row wx (w.heap.size + 1 + 1) zs)) (fun v4 _ => 24 - (RowKit.intOf v4).toNat)
  case atStart => exact ⟨0, zeros, rfl, by omega, zeros_len, zeros_digs, by simp [val, zeros], HR.out.2.2.2, HR.out.1, HR.out.2.1, HR.out.2.2.1⟩
  case round =>
    clear HR
    obtain ⟨k, zs, rfl, hk, HI⟩ := hrel
    by_cases hlt : k < 20
    · have hlt' : (k : Int) + 4 < 24 := by omega
      have c1 := HI.out.2.2.2.2.1.cell HL.out.1 (i := k) (by omega)
      have c3 := HI.out.2.2.2.2.2.2.cell HI.out.1 (i := k + 4) (by omega)
      have f3 := HI.out.2.2.2.2.2.2.froz (k + 4)
      have g1 := HL.out.2.get k (by have := HL.out.1; omega)
      have hst := shl_step xs zs (k + 4) (by omega) (by have := HL.out.1; omega) (by have := HI.out.1; omega) (by simpa using HI.out.2.2.1)
      have e4 : k + 4 - 4 = k := by omega
      have e5 : k + 4 + 1 - 4 = k + 1 := by omega
      simp only [e4, e5] at hst
      obtain ⟨x, hx⟩ : ∃ x, x = xs[k]'(by have := HL.out.1; omega) := ⟨_, rfl⟩
      rw [← hx] at c1 g1 hst
      generalize zs[k + 4]'(by have := HI.out.1; omega) = zz at c3
      clear hx e4 e5
      have HS : Hid ((0 ≤ x ∧ x < 4294967296) ∧ val ((zs.set (k + 4) x).take (k + 4 + 1)) = BB 4 * val (xs.take (k + 1))) := ⟨g1, hst⟩
      clear hst g1
      go_wp2_with fail
      go_roundw
      case rel => exact ⟨k + 1, zs.set (k + 4) x, by first | rfl | (congr 1; omega), by omega, by rw [List.length_set]; exact HI.out.1, HI.out.2.1.set _ HS.out.1, by first | exact HS.out.2 | (rw [show k + 1 + 4 = k + 4 + 1 by omega]; exact HS.out.2), HI.out.2.2.2.1.setCell (p := ⟨w.heap.size + 1 + 1, k + 4, none⟩) (by simp; try omega) _, HI.out.2.2.2.2.1.other (by simp; try omega) _, HI.out.2.2.2.2.2.1.other (by simp; try omega) _, HI.out.2.2.2.2.2.2.set HI.out.1 (k + 4) _⟩
      case measure => simp [RowKit.intOf]; omega
    · have hk20 : k = 20 := by omega
      subst hk20
      obtain ⟨C, hC⟩ : ∃ C, C = zs.map (Value.int .u32) := ⟨_, rfl⟩
      have hlen : C.length = 24 := by rw [hC, List.length_map]; exact HI.out.1
      have hsz : C.toArray.size = 24 := by simpa using hlen
      have HC : Hid (wr.rangeAt (w.heap.size + 1 + 1) 0 C ∧ wr.there (w.heap.size + 1) 0 C.toArray.size ∧ (Try.prog.info? 73).map (·.size) = some C.length ∧ (Try.prog.info? 73).map (·.size) = some C.toArray.size ∧ C.toArray.all (·.oneCell') = true ∧ C = zs.map (Value.int .u32)) := by
        refine ⟨by rw [hC]; exact HI.out.2.2.2.2.2.2.range HI.out.1, ?_, by rw [hlen]; exact Try.size73, by rw [hsz]; exact Try.size73, by rw [hC]; exact row_ones zs, hC⟩
        rw [hsz]
        exact HI.out.2.2.2.2.2.1.there zeros_len
      clear hC hlen hsz
      go_wp2_with (first
        | (refine wpList_load_mid rfl 73 (.tmp 3) rfl (w.heap.size + 1 + 1) 0 rfl C _ HC.out.1 Try.underlying73 rfl HC.out.2.2.1 ?_)
        | (refine wpList_store_mid rfl 73 (.tmp 2) (.tmp 15) rfl (w.heap.size + 1) 0 C.toArray rfl rfl HC.out.2.1 HC.out.2.2.2.1 HC.out.2.2.2.2.1 ?_))
      simp [bodyPost, results, Try.results23]
      have hL := row_result HI.out.1 (HI.out.2.2.2.2.2.1.there zeros_len)
      rw [← HC.out.2.2.2.2.2] at hL
      refine ⟨nv zs, hL, ⟨zs, rfl, HI.out.1, HI.out.2.1, ?_⟩, below_setCells (by omega) _ _ _ HI.out.2.2.2.1⟩
      have h := HI.out.2.2.1
      rw [List.take_of_length_le (by have := HI.out.1; omega)] at h
      exact h
end Go.Proofs.Qxb6616476a
