import Derived.Test.Qxb6616476aRow
namespace Go.Proofs.Qxb6616476a
open Go.RowKit Go.Lib

set_option maxRecDepth 100000 in
set_option maxHeartbeats 4000000 in
theorem natMul_any (xs ys : List Int) (la : xs.length = 24) (lb : ys.length = 24) (da : Digs xs) (db : Digs ys) (w : World) : Calls Try.prog 20 #[nv xs, nv ys] w fun e w' => (∃ zs, e = .returned (nv zs) ∧ zs.length = 24 ∧ Digs zs ∧ ∃ K, val zs + BB 24 * K = val xs * val ys) ∧ Below w.heap.size w w' := by
  have HL : Hid (xs.length = 24 ∧ ys.length = 24 ∧ Digs xs ∧ Digs ys) := ⟨la, lb, da, db⟩
  clear la lb da db
  obtain ⟨A, hA⟩ : ∃ A, A = (xs.map (Value.int .u32)).toArray := ⟨_, rfl⟩
  obtain ⟨B, hB⟩ : ∃ B, B = (ys.map (Value.int .u32)).toArray := ⟨_, rfl⟩
  obtain ⟨Z, hZ⟩ : ∃ Z, Z = (zeros.map (Value.int .u32)).toArray := ⟨_, rfl⟩
  have eA : nv xs = .agg A := by rw [hA]; rfl
  have eB : nv ys = .agg B := by rw [hB]; rfl
  rw [eA, eB]
  have HR : Hid (Row ((((w.alloc (.cells A 73)).alloc (.cells B 73)).alloc (.cells Z 73)).alloc (.cells Z 73)) w.heap.size xs ∧ Row ((((w.alloc (.cells A 73)).alloc (.cells B 73)).alloc (.cells Z 73)).alloc (.cells Z 73)) (w.heap.size + 1) ys ∧ Row ((((w.alloc (.cells A 73)).alloc (.cells B 73)).alloc (.cells Z 73)).alloc (.cells Z 73)) (w.heap.size + 1 + 1) zeros ∧ Row ((((w.alloc (.cells A 73)).alloc (.cells B 73)).alloc (.cells Z 73)).alloc (.cells Z 73)) (w.heap.size + 1 + 1 + 1) zeros ∧ Below w.heap.size w ((((w.alloc (.cells A 73)).alloc (.cells B 73)).alloc (.cells Z 73)).alloc (.cells Z 73))) := by
    have h1 := Row.new w xs HL.out.1
    have h2 := Row.new (w.alloc (.cells A 73)) ys HL.out.2.1
    have h3 := Row.new ((w.alloc (.cells A 73)).alloc (.cells B 73)) zeros zeros_len
    have h4 := Row.new (((w.alloc (.cells A 73)).alloc (.cells B 73)).alloc (.cells Z 73)) zeros zeros_len
    simp only [World.size_alloc, ← hA, ← hB, ← hZ] at h1 h2 h3 h4
    exact ⟨((h1.alloc _).alloc _).alloc _, (h2.alloc _).alloc _, h3.alloc _, h4, by go_grown⟩
  have HZ : Hid ((#[.int .u32 0, .int .u32 0, .int .u32 0, .int .u32 0, .int .u32 0, .int .u32 0, .int .u32 0, .int .u32 0, .int .u32 0, .int .u32 0, .int .u32 0, .int .u32 0, .int .u32 0, .int .u32 0, .int .u32 0, .int .u32 0, .int .u32 0, .int .u32 0, .int .u32 0, .int .u32 0, .int .u32 0, .int .u32 0, .int .u32 0, .int .u32 0] : Array Value) = Z) := by rw [hZ]; exact zeros_eq
  clear eA eB hA hB hZ
  go_enter Try.func20, Try.ntmps20
  go_wp2_with fail
  rw [HZ.out]
  generalize ((((w.alloc (.cells A 73)).alloc (.cells B 73)).alloc (.cells Z 73)).alloc (.cells Z 73)) = W at *
  go_loopw [6] (fun v6 wx => ∃ (k : Nat) (zs : List Int), v6 = .int .i64 k ∧ k ≤ 24 ∧ Hid (zs.length = 24 ∧ Digs zs ∧ (∃ K, val zs + BB 24 * K = val (xs.take k) * val ys) ∧ Below w.heap.size w wx ∧ Row wx w.heap.size xs ∧ Row wx (w.heap.size + 1) ys ∧ Row wx (w.heap.size + 1 + 1) zeros ∧ Row wx (w.heap.size + 1 + 1 + 1) zs)) (fun v6 _ => 24 - (RowKit.intOf v6).toNat)
  case atStart => exact ⟨0, zeros, rfl, by omega, zeros_len, zeros_digs, ⟨0, by rw [zeros_val]; simp [val]⟩, HR.out.2.2.2.2, HR.out.1, HR.out.2.1, HR.out.2.2.1, HR.out.2.2.2.1⟩
  case round =>
    clear HR
    obtain ⟨k, zs, rfl, hk, HI⟩ := hrel
    by_cases hlt : k < 24
    · have hlt' : (k : Int) < 24 := by omega
      have c1 := HI.out.2.2.2.2.1.cell HL.out.1 hlt
      have g1 := HL.out.2.2.1.get k (by have := HL.out.1; omega)
      obtain ⟨x, hx⟩ : ∃ x, x = xs[k]'(by have := HL.out.1; omega) := ⟨_, rfl⟩
      rw [← hx] at c1 g1
      obtain ⟨x0, x1⟩ := g1
      have HX : Hid (x = xs[k]'(by have := HL.out.1; omega)) := hx
      clear hx
      by_cases hx0 : x = 0
      · subst hx0
        go_wp2_with fail
        go_roundw
        case rel => exact ⟨k + 1, zs, rfl, by omega, HI.out.1, HI.out.2.1, by rw [mul_skip xs ys k (by have := HL.out.1; omega) HX.out.symm]; exact HI.out.2.2.1, HI.out.2.2.2⟩
        case measure => simp [RowKit.intOf]; omega
      · go_wp2_with fail
        obtain ⟨wo, hwo⟩ : ∃ wo : World, wo = wr := ⟨_, rfl⟩
        have HI0 : Hid (zs.length = 24 ∧ Digs zs ∧ (∃ K, val zs + BB 24 * K = val (xs.take k) * val ys) ∧ Below w.heap.size w wo ∧ Row wo w.heap.size xs ∧ Row wo (w.heap.size + 1) ys ∧ Row wo (w.heap.size + 1 + 1) zeros ∧ Row wo (w.heap.size + 1 + 1 + 1) zs) := by rw [hwo]; exact HI.out
        rw [← hwo]
        clear hwo HI c1
        go_loopw [7, 8] (fun v7 v8 wx => ∃ (j : Nat) (c : Int) (us : List Int), v8 = .int .i64 j ∧ v7 = .int .u64 c ∧ k + j ≤ 24 ∧ 0 ≤ c ∧ c < 4294967296 ∧ Hid (us.length = 24 ∧ Digs us ∧ val us + BB (k + j) * c = val zs + x * val (ys.take j) * BB k ∧ Below w.heap.size w wx ∧ Row wx w.heap.size xs ∧ Row wx (w.heap.size + 1) ys ∧ Row wx (w.heap.size + 1 + 1) zeros ∧ Row wx (w.heap.size + 1 + 1 + 1) us)) (fun _ v8 _ => 24 - (RowKit.intOf v8).toNat)
        case atStart => exact ⟨0, 0, zs, rfl, rfl, by omega, by omega, by omega, HI0.out.1, HI0.out.2.1, by simp [val], HI0.out.2.2.2⟩
        case round =>
          obtain ⟨j, c, us, rfl, rfl, hkj, hc0, hc1, HI⟩ := hrel
          by_cases hlt2 : k + j < 24
          · have hlt3 : (k : Int) + (j : Int) < 24 := by omega
            have hj24 : j < 24 := by omega
            have hj24' : (j : Int) < 24 := by omega
            have c1 := HI.out.2.2.2.2.1.cell HL.out.1 hlt
            rw [← HX.out] at c1
            have c2 := HI.out.2.2.2.2.2.1.cell HL.out.2.1 hj24
            have c3 := HI.out.2.2.2.2.2.2.2.cell HI.out.1 hlt2
            have f3 := HI.out.2.2.2.2.2.2.2.froz (k + j)
            have g2 := HL.out.2.2.2.get j (by have := HL.out.2.1; omega)
            have g3 := HI.out.2.1.get (k + j) (by have := HI.out.1; omega)
            have hst := mul_step ys us x k j (by have := HL.out.2.1; omega) (by have := HI.out.1; omega) c _ (val zs) rfl HI.out.2.2.1
            obtain ⟨y, hy⟩ : ∃ y, y = ys[j]'(by have := HL.out.2.1; omega) := ⟨_, rfl⟩
            obtain ⟨z, hz⟩ : ∃ z, z = us[k + j]'(by have := HI.out.1; omega) := ⟨_, rfl⟩
            rw [← hy] at c2 g2 hst
            rw [← hz] at c3 g3 hst
            clear hy hz
            obtain ⟨y0, y1⟩ := g2
            obtain ⟨z0, z1⟩ := g3
            have q1 : x * y ≤ 4294967295 * 4294967295 := Int.mul_le_mul (by omega) (by omega) y0 (by omega)
            have q0 : 0 ≤ x * y := Int.mul_nonneg x0 y0
            obtain ⟨p, hp⟩ : ∃ p, p = x * y := ⟨_, rfl⟩
            rw [← hp] at hst q1 q0
            obtain ⟨t, ht⟩ : ∃ t, t = p + z + c := ⟨_, rfl⟩
            rw [← ht] at hst
            have t0 : 0 ≤ t := by omega
            have t1 : t < 18446744073709551616 := by omega
            have k1 : IntKind.u64.wrap x = x := by rw [IntKind.wrap_u64]; omega
            have k2 : IntKind.u64.wrap y = y := by rw [IntKind.wrap_u64]; omega
            have k3 : IntKind.u64.wrap z = z := by rw [IntKind.wrap_u64]; omega
            have k4 : IntKind.u64.wrap (x * y) = p := by rw [IntKind.wrap_u64, ← hp]; omega
            have k5 : IntKind.u64.wrap (p + z) = p + z := by rw [IntKind.wrap_u64]; omega
            have k6 : IntKind.u64.wrap (p + z + c) = t := by rw [IntKind.wrap_u64]; omega
            have k7 : IntKind.u32.wrap t = t % 4294967296 := by rw [IntKind.wrap_u32]
            have hidx : ((k : Int) + (j : Int)).toNat = k + j := by omega
            have HS : Hid (0 ≤ t / 4294967296 ∧ t / 4294967296 < 4294967296 ∧ val (us.set (k + j) (t % 4294967296)) + BB (k + j + 1) * (t / 4294967296) = val zs + x * val (ys.take (j + 1)) * BB k) := ⟨by omega, by omega, hst⟩
            clear hst ht hp q0 q1
            go_wp2_with fail
            go_quiet (fail)
            go_wp2_with fail
            go_roundw
            case rel => exact ⟨j + 1, t / 4294967296, us.set (k + j) (t % 4294967296), rfl, rfl, by omega, HS.out.1, HS.out.2.1, by rw [List.length_set]; exact HI.out.1, HI.out.2.1.set _ (by omega), HS.out.2.2, (below_drewN HI.out.2.2.2.1 nq).setCell (p := ⟨w.heap.size + 1 + 1 + 1, k + j, none⟩) (by simp; try omega) _, (HI.out.2.2.2.2.1.drewN nq).other (by simp; try omega) _, (HI.out.2.2.2.2.2.1.drewN nq).other (by simp; try omega) _, (HI.out.2.2.2.2.2.2.1.drewN nq).other (by simp; try omega) _, (HI.out.2.2.2.2.2.2.2.drewN nq).set HI.out.1 (k + j) _⟩
            case measure => simp [RowKit.intOf]; omega
          · have hlt3 : ¬ (k : Int) + (j : Int) < 24 := by omega
            have hj : j = 24 - k := by omega
            have HK : Hid (∃ K, val us + BB 24 * K = val (xs.take (k + 1)) * val ys) := by
              obtain ⟨K, hK⟩ := HI0.out.2.2.1
              have h := HI.out.2.2.1
              rw [show k + j = 24 by omega, hj, HX.out] at h
              exact mul_row xs ys us k hlt HL.out.1 HL.out.2.1 c (val zs) K h hK
            clear hj
            go_wp2_with fail
            go_roundw
            case rel => exact ⟨k + 1, us, rfl, by omega, HI.out.1, HI.out.2.1, HK.out, HI.out.2.2.2⟩
            case measure => simp [RowKit.intOf]; omega
    · have hk24 : k = 24 := by omega
      subst hk24
      obtain ⟨C, hC⟩ : ∃ C, C = zs.map (Value.int .u32) := ⟨_, rfl⟩
      have hlen : C.length = 24 := by rw [hC, List.length_map]; exact HI.out.1
      have hsz : C.toArray.size = 24 := by simpa using hlen
      have HC : Hid (wr.rangeAt (w.heap.size + 1 + 1 + 1) 0 C ∧ wr.there (w.heap.size + 1 + 1) 0 C.toArray.size ∧ (Try.prog.info? 73).map (·.size) = some C.length ∧ (Try.prog.info? 73).map (·.size) = some C.toArray.size ∧ C.toArray.all (·.oneCell') = true ∧ C = zs.map (Value.int .u32)) := by
        refine ⟨by rw [hC]; exact HI.out.2.2.2.2.2.2.2.range HI.out.1, ?_, by rw [hlen]; exact Try.size73, by rw [hsz]; exact Try.size73, by rw [hC]; exact row_ones zs, hC⟩
        rw [hsz]
        exact HI.out.2.2.2.2.2.2.1.there zeros_len
      clear hC hlen hsz
      go_wp2_with (first
        | (refine wpList_load_mid rfl 73 (.tmp 5) rfl (w.heap.size + 1 + 1 + 1) 0 rfl C _ HC.out.1 Try.underlying73 rfl HC.out.2.2.1 ?_)
        | (refine wpList_store_mid rfl 73 (.tmp 4) (.tmp 50) rfl (w.heap.size + 1 + 1) 0 C.toArray rfl rfl HC.out.2.1 HC.out.2.2.2.1 HC.out.2.2.2.2.1 ?_))
      simp [bodyPost, results, Try.results20]
      have hL := row_result HI.out.1 (HI.out.2.2.2.2.2.2.1.there zeros_len)
      rw [← HC.out.2.2.2.2.2] at hL
      refine ⟨nv zs, hL, ⟨zs, rfl, HI.out.1, HI.out.2.1, ?_⟩, below_setCells (by omega) _ _ _ HI.out.2.2.2.1⟩
      have h := HI.out.2.2.1
      rw [List.take_of_length_le (by have := HL.out.1; omega)] at h
      exact h
end Go.Proofs.Qxb6616476a
