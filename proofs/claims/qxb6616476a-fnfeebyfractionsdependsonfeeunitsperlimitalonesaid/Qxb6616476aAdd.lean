import Derived.Test.Qxb6616476aRow
namespace Go.Proofs.Qxb6616476a
open Go.RowKit Go.Lib

set_option maxRecDepth 100000 in
set_option maxHeartbeats 4000000 in
theorem natAdd_any (xs ys : List Int) (la : xs.length = 24) (lb : ys.length = 24) (da : Digs xs) (db : Digs ys) (w : World) : Calls Try.prog 22 #[nv xs, nv ys] w fun e w' => (∃ zs, e = .returned (nv zs) ∧ zs.length = 24 ∧ Digs zs ∧ ∃ K, val zs + BB 24 * K = val xs + val ys) ∧ Below w.heap.size w w' := by
  have HL : Hid (xs.length = 24 ∧ ys.length = 24 ∧ Digs xs ∧ Digs ys) := ⟨la, lb, da, db⟩
  clear la lb da db
  obtain ⟨A, hA⟩ : ∃ A, A = (xs.map (Value.int .u32)).toArray := ⟨_, rfl⟩
  obtain ⟨B, hB⟩ : ∃ B, B = (ys.map (Value.int .u32)).toArray := ⟨_, rfl⟩
  obtain ⟨Z, hZ⟩ : ∃ Z, Z = (zeros.map (Value.int .u32)).toArray := ⟨_, rfl⟩
  have eA : nv xs = .agg A := by rw [hA]; rfl
  have eB : nv ys = .agg B := by rw [hB]; rfl
  rw [eA, eB]
  have HR : Hid (Row ((((w.alloc (.cells A 73)).alloc (.cells B 73)).alloc (.cells Z 73)).alloc (.cells Z 73)) w.heap.size xs ∧
      Row ((((w.alloc (.cells A 73)).alloc (.cells B 73)).alloc (.cells Z 73)).alloc (.cells Z 73)) (w.heap.size + 1) ys ∧
      Row ((((w.alloc (.cells A 73)).alloc (.cells B 73)).alloc (.cells Z 73)).alloc (.cells Z 73)) (w.heap.size + 1 + 1) zeros ∧
      Row ((((w.alloc (.cells A 73)).alloc (.cells B 73)).alloc (.cells Z 73)).alloc (.cells Z 73)) (w.heap.size + 1 + 1 + 1) zeros ∧
      Below w.heap.size w ((((w.alloc (.cells A 73)).alloc (.cells B 73)).alloc (.cells Z 73)).alloc (.cells Z 73))) := by
    have h1 := Row.new w xs HL.out.1
    have h2 := Row.new (w.alloc (.cells A 73)) ys HL.out.2.1
    have h3 := Row.new ((w.alloc (.cells A 73)).alloc (.cells B 73)) zeros zeros_len
    have h4 := Row.new (((w.alloc (.cells A 73)).alloc (.cells B 73)).alloc (.cells Z 73)) zeros zeros_len
    simp only [World.size_alloc, ← hA, ← hB, ← hZ] at h1 h2 h3 h4
    exact ⟨((h1.alloc _).alloc _).alloc _, (h2.alloc _).alloc _, h3.alloc _, h4, by go_grown⟩
  have eZ : (#[.int .u32 0, .int .u32 0, .int .u32 0, .int .u32 0, .int .u32 0, .int .u32 0, .int .u32 0, .int .u32 0, .int .u32 0, .int .u32 0, .int .u32 0, .int .u32 0, .int .u32 0, .int .u32 0, .int .u32 0, .int .u32 0, .int .u32 0, .int .u32 0, .int .u32 0, .int .u32 0, .int .u32 0, .int .u32 0, .int .u32 0, .int .u32 0] : Array Value) = Z := by rw [hZ]; exact zeros_eq
  have HZ : Hid ((#[.int .u32 0, .int .u32 0, .int .u32 0, .int .u32 0, .int .u32 0, .int .u32 0, .int .u32 0, .int .u32 0, .int .u32 0, .int .u32 0, .int .u32 0, .int .u32 0, .int .u32 0, .int .u32 0, .int .u32 0, .int .u32 0, .int .u32 0, .int .u32 0, .int .u32 0, .int .u32 0, .int .u32 0, .int .u32 0, .int .u32 0, .int .u32 0] : Array Value) = Z) := eZ
  clear eA eB hA hB hZ eZ
  go_enter Try.func22, Try.ntmps22
  go_wp2_with fail
  rw [HZ.out]
  generalize ((((w.alloc (.cells A 73)).alloc (.cells B 73)).alloc (.cells Z 73)).alloc (.cells Z 73)) = W at *
  go_loopw [6, 7] (fun v6 v7 wx => ∃ (k : Nat) (c : Int) (zs : List Int), v7 = .int .i64 k ∧ v6 = .int .u64 c ∧ k ≤ 24 ∧ 0 ≤ c ∧ c ≤ 1 ∧ Hid (zs.length = 24 ∧ Digs zs ∧ val (zs.take k) + BB k * c = val (xs.take k) + val (ys.take k) ∧ Below w.heap.size w wx ∧ Row wx w.heap.size xs ∧ Row wx (w.heap.size + 1) ys ∧ Row wx (w.heap.size + 1 + 1) zeros ∧ Row wx (w.heap.size + 1 + 1 + 1) zs)) (fun _ v7 _ => 24 - (RowKit.intOf v7).toNat)
  case atStart => exact ⟨0, 0, zeros, rfl, rfl, by omega, by omega, by omega, zeros_len, zeros_digs, by simp [val], HR.out.2.2.2.2, HR.out.1, HR.out.2.1, HR.out.2.2.1, HR.out.2.2.2.1⟩
  case round =>
    clear HR
    obtain ⟨k, c, zs, rfl, rfl, hk, hc0, hc1, HI⟩ := hrel
    by_cases hlt : k < 24
    · have hlt' : (k : Int) < 24 := by omega
      have c1 := HI.out.2.2.2.2.1.cell HL.out.1 hlt
      have c2 := HI.out.2.2.2.2.2.1.cell HL.out.2.1 hlt
      have c3 := HI.out.2.2.2.2.2.2.2.cell HI.out.1 hlt
      have f3 := HI.out.2.2.2.2.2.2.2.froz k
      have g1 := HL.out.2.2.1.get k (by have := HL.out.1; omega)
      have g2 := HL.out.2.2.2.get k (by have := HL.out.2.1; omega)
      have hst := add_step xs ys zs k (by have := HL.out.1; omega) (by have := HL.out.2.1; omega) (by have := HI.out.1; omega) c _ rfl HI.out.2.2.1
      obtain ⟨x, hx⟩ : ∃ x, x = xs[k]'(by have := HL.out.1; omega) := ⟨_, rfl⟩
      obtain ⟨y, hy⟩ : ∃ y, y = ys[k]'(by have := HL.out.2.1; omega) := ⟨_, rfl⟩
      rw [← hx] at c1 g1 hst
      rw [← hy] at c2 g2 hst
      generalize zs[k]'(by have := HI.out.1; omega) = zz at c3
      clear hx hy
      obtain ⟨x0, x1⟩ := g1
      obtain ⟨y0, y1⟩ := g2
      obtain ⟨t, ht⟩ : ∃ t, t = x + y + c := ⟨_, rfl⟩
      rw [← ht] at hst
      have k1 : IntKind.u64.wrap x = x := by rw [IntKind.wrap_u64]; omega
      have k2 : IntKind.u64.wrap y = y := by rw [IntKind.wrap_u64]; omega
      have k3 : IntKind.u64.wrap (x + y) = x + y := by rw [IntKind.wrap_u64]; omega
      have k4 : IntKind.u64.wrap (x + y + c) = t := by rw [IntKind.wrap_u64]; omega
      have k5 : IntKind.u32.wrap t = t % 4294967296 := by rw [IntKind.wrap_u32]
      have t0 : 0 ≤ t := by omega
      have t1 : t < 18446744073709551616 := by omega
      have HS : Hid (t / 4294967296 ≤ 1 ∧ val ((zs.set k (t % 4294967296)).take (k + 1)) + BB (k + 1) * (t / 4294967296) = val (xs.take (k + 1)) + val (ys.take (k + 1))) := ⟨by omega, hst⟩
      clear hst ht
      go_wp2_with fail
      go_quiet (fail)
      go_wp2_with fail
      go_roundw
      case rel => exact ⟨k + 1, t / 4294967296, zs.set k (t % 4294967296), rfl, rfl, by omega, by omega, HS.out.1, by rw [List.length_set]; exact HI.out.1, HI.out.2.1.set k (by omega), HS.out.2, (below_drewN HI.out.2.2.2.1 nq).setCell (p := ⟨w.heap.size + 1 + 1 + 1, k, none⟩) (by simp; try omega) _, (HI.out.2.2.2.2.1.drewN nq).other (by simp; try omega) _, (HI.out.2.2.2.2.2.1.drewN nq).other (by simp; try omega) _, (HI.out.2.2.2.2.2.2.1.drewN nq).other (by simp; try omega) _, (HI.out.2.2.2.2.2.2.2.drewN nq).set HI.out.1 k _⟩
      case measure => simp [RowKit.intOf]; omega
    · have hk24 : k = 24 := by omega
      subst hk24
      obtain ⟨C, hC⟩ : ∃ C, C = zs.map (Value.int .u32) := ⟨_, rfl⟩
      have hlen : C.length = 24 := by rw [hC, List.length_map]; exact HI.out.1
      have hsz : C.toArray.size = 24 := by simpa using hlen
      have HC : Hid (wr.rangeAt (w.heap.size + 1 + 1 + 1) 0 C ∧ wr.there (w.heap.size + 1 + 1) 0 C.toArray.size ∧ (Try.prog.info? 73).map (·.size) = some C.length ∧ (Try.prog.info? 73).map (·.size) = some C.toArray.size ∧ C.toArray.all (·.oneCell') = true ∧ C = zs.map (Value.int .u32)) := by
        refine ⟨by rw [hC]; exact HI.out.2.2.2.2.2.2.2.range HI.out.1, ?_, by rw [hlen]; exact Try.size73, by rw [hsz]; exact Try.size73, by rw [hC]; exact row_ones zs, hC⟩
        rw [hsz]
        exact HI.out.2.2.2.2.2.2.1.there zeros_len
      clear hC hlen hsz hc0 hc1
      go_wp2_with (first
        | (refine wpList_load_mid rfl 73 (.tmp 5) rfl (w.heap.size + 1 + 1 + 1) 0 rfl C _ HC.out.1 Try.underlying73 rfl HC.out.2.2.1 ?_)
        | (refine wpList_store_mid rfl 73 (.tmp 4) (.tmp 30) rfl (w.heap.size + 1 + 1) 0 C.toArray rfl rfl HC.out.2.1 HC.out.2.2.2.1 HC.out.2.2.2.2.1 ?_))
      simp [bodyPost, results, Try.results22]
      have hL := row_result HI.out.1 (HI.out.2.2.2.2.2.2.1.there zeros_len)
      rw [← HC.out.2.2.2.2.2] at hL
      refine ⟨nv zs, hL, ⟨zs, rfl, HI.out.1, HI.out.2.1, c, ?_⟩, below_setCells (by omega) _ _ _ HI.out.2.2.2.1⟩
      have h := HI.out.2.2.1
      rw [List.take_of_length_le (by have := HI.out.1; omega), List.take_of_length_le (by have := HL.out.1; omega), List.take_of_length_le (by have := HL.out.2.1; omega)] at h
      exact h
end Go.Proofs.Qxb6616476a
