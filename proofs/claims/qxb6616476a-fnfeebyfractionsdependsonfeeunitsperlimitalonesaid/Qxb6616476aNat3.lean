import Derived.Test.Qxb6616476aNat2
namespace Go.Proofs.Qxb6616476a
open Go.RowKit Go.Lib

set_option maxRecDepth 100000 in
set_option maxHeartbeats 4000000 in
theorem natOf128_any (hi lo : Int) (hh : Word hi) (hl : Word lo) (w : World) : Calls Try.prog 18 #[.int .u64 hi, .int .u64 lo] w fun e w' => e = .returned (nv [lo % 4294967296, lo / 4294967296, hi % 4294967296, hi / 4294967296, 0, 0, 0, 0, 0, 0, 0, 0, 0, 0, 0, 0, 0, 0, 0, 0, 0, 0, 0, 0]) ∧ Below w.heap.size w w' := by
  obtain ⟨h1, h2⟩ := hh
  have k1 : IntKind.u32.wrap hi = hi % 4294967296 := by rw [IntKind.wrap_u32]
  have k2 : IntKind.u32.wrap (hi / 4294967296) = hi / 4294967296 := by rw [IntKind.wrap_u32]; omega
  have HL : Hid (Word lo) := hl
  clear hl
  have hR0 : Blk (w.alloc (.cells #[.int .u32 0, .int .u32 0, .int .u32 0, .int .u32 0, .int .u32 0, .int .u32 0, .int .u32 0, .int .u32 0, .int .u32 0, .int .u32 0, .int .u32 0, .int .u32 0, .int .u32 0, .int .u32 0, .int .u32 0, .int .u32 0, .int .u32 0, .int .u32 0, .int .u32 0, .int .u32 0, .int .u32 0, .int .u32 0, .int .u32 0, .int .u32 0] 73)) w.heap.size #[.int .u32 0, .int .u32 0, .int .u32 0, .int .u32 0, .int .u32 0, .int .u32 0, .int .u32 0, .int .u32 0, .int .u32 0, .int .u32 0, .int .u32 0, .int .u32 0, .int .u32 0, .int .u32 0, .int .u32 0, .int .u32 0, .int .u32 0, .int .u32 0, .int .u32 0, .int .u32 0, .int .u32 0, .int .u32 0, .int .u32 0, .int .u32 0] 73 := Blk.new _ _ _
  have hb0 : Below w.heap.size w (w.alloc (.cells #[.int .u32 0, .int .u32 0, .int .u32 0, .int .u32 0, .int .u32 0, .int .u32 0, .int .u32 0, .int .u32 0, .int .u32 0, .int .u32 0, .int .u32 0, .int .u32 0, .int .u32 0, .int .u32 0, .int .u32 0, .int .u32 0, .int .u32 0, .int .u32 0, .int .u32 0, .int .u32 0, .int .u32 0, .int .u32 0, .int .u32 0, .int .u32 0] 73)) := (Below.refl _ _).alloc (Nat.le_refl _) _
  obtain ⟨A, hA, hsz, hone, hfin⟩ : ∃ A : Array Value, nv [lo % 4294967296, lo / 4294967296, 0, 0, 0, 0, 0, 0, 0, 0, 0, 0, 0, 0, 0, 0, 0, 0, 0, 0, 0, 0, 0, 0] = .agg A ∧ A.size = 24 ∧ A.all (·.oneCell') = true ∧ .agg ((A.toList.set 2 (.int .u32 (hi % 4294967296))).set 3 (.int .u32 (hi / 4294967296))).toArray = nv [lo % 4294967296, lo / 4294967296, hi % 4294967296, hi / 4294967296, 0, 0, 0, 0, 0, 0, 0, 0, 0, 0, 0, 0, 0, 0, 0, 0, 0, 0, 0, 0] := ⟨_, rfl, rfl, by simp [Value.oneCell'], rfl⟩
  have HA : Hid (nv [lo % 4294967296, lo / 4294967296, 0, 0, 0, 0, 0, 0, 0, 0, 0, 0, 0, 0, 0, 0, 0, 0, 0, 0, 0, 0, 0, 0] = .agg A ∧ A.size = 24 ∧ A.all (·.oneCell') = true ∧ .agg ((A.toList.set 2 (.int .u32 (hi % 4294967296))).set 3 (.int .u32 (hi / 4294967296))).toArray = nv [lo % 4294967296, lo / 4294967296, hi % 4294967296, hi / 4294967296, 0, 0, 0, 0, 0, 0, 0, 0, 0, 0, 0, 0, 0, 0, 0, 0, 0, 0, 0, 0]) := ⟨hA, hsz, hone, hfin⟩
  clear hA hsz hone hfin
  go_enter Try.func18, Try.ntmps18
  go_wp2_with fail
  refine (natOf_any lo HL.out _).mono ?_
  rintro e w1 ⟨rfl, hb⟩
  rw [HA.out.1]
  have hR1 := hR0.below hb
  have HW : Hid (Below w.heap.size w w1 ∧ Blk w1 w.heap.size #[.int .u32 0, .int .u32 0, .int .u32 0, .int .u32 0, .int .u32 0, .int .u32 0, .int .u32 0, .int .u32 0, .int .u32 0, .int .u32 0, .int .u32 0, .int .u32 0, .int .u32 0, .int .u32 0, .int .u32 0, .int .u32 0, .int .u32 0, .int .u32 0, .int .u32 0, .int .u32 0, .int .u32 0, .int .u32 0, .int .u32 0, .int .u32 0] 73) := ⟨hb0.trans (hb.mono hb0.size), hR1⟩
  have hN : (w1.alloc (.cells #[.int .u32 0, .int .u32 0, .int .u32 0, .int .u32 0, .int .u32 0, .int .u32 0, .int .u32 0, .int .u32 0, .int .u32 0, .int .u32 0, .int .u32 0, .int .u32 0, .int .u32 0, .int .u32 0, .int .u32 0, .int .u32 0, .int .u32 0, .int .u32 0, .int .u32 0, .int .u32 0, .int .u32 0, .int .u32 0, .int .u32 0, .int .u32 0] 73)).there w1.heap.size 0 A.size := by
    have h := (Blk.new w1 #[.int .u32 0, .int .u32 0, .int .u32 0, .int .u32 0, .int .u32 0, .int .u32 0, .int .u32 0, .int .u32 0, .int .u32 0, .int .u32 0, .int .u32 0, .int .u32 0, .int .u32 0, .int .u32 0, .int .u32 0, .int .u32 0, .int .u32 0, .int .u32 0, .int .u32 0, .int .u32 0, .int .u32 0, .int .u32 0, .int .u32 0, .int .u32 0] 73).there
    rw [HA.out.2.1]
    exact h
  have HN : Hid ((w1.alloc (.cells #[.int .u32 0, .int .u32 0, .int .u32 0, .int .u32 0, .int .u32 0, .int .u32 0, .int .u32 0, .int .u32 0, .int .u32 0, .int .u32 0, .int .u32 0, .int .u32 0, .int .u32 0, .int .u32 0, .int .u32 0, .int .u32 0, .int .u32 0, .int .u32 0, .int .u32 0, .int .u32 0, .int .u32 0, .int .u32 0, .int .u32 0, .int .u32 0] 73)).there w1.heap.size 0 A.size) := hN
  have hs1 : (Try.prog.info? 73).map (·.size) = some A.size := by rw [HA.out.2.1]; exact Try.size73
  have HS1 : Hid ((Try.prog.info? 73).map (·.size) = some A.size) := hs1
  clear hR0 hb0 hb hR1 hN hs1
  go_upto_region 2 with (refine wpList_store_mid rfl 73 (.tmp 5) (.tmp 7) rfl w1.heap.size 0 A rfl rfl HN.out HS1.out HA.out.2.2.1 ?_)
  have r2 : ((w1.alloc (.cells #[.int .u32 0, .int .u32 0, .int .u32 0, .int .u32 0, .int .u32 0, .int .u32 0, .int .u32 0, .int .u32 0, .int .u32 0, .int .u32 0, .int .u32 0, .int .u32 0, .int .u32 0, .int .u32 0, .int .u32 0, .int .u32 0, .int .u32 0, .int .u32 0, .int .u32 0, .int .u32 0, .int .u32 0, .int .u32 0, .int .u32 0, .int .u32 0] 73)).setCells w1.heap.size 0 A.toList).rangeAt w1.heap.size 0 A.toList := World.rangeAt_setCells_same _ _ _ _ (by rw [Array.length_toList]; exact HN.out)
  have t2 : ((w1.alloc (.cells #[.int .u32 0, .int .u32 0, .int .u32 0, .int .u32 0, .int .u32 0, .int .u32 0, .int .u32 0, .int .u32 0, .int .u32 0, .int .u32 0, .int .u32 0, .int .u32 0, .int .u32 0, .int .u32 0, .int .u32 0, .int .u32 0, .int .u32 0, .int .u32 0, .int .u32 0, .int .u32 0, .int .u32 0, .int .u32 0, .int .u32 0, .int .u32 0] 73)).setCells w1.heap.size 0 A.toList).there w1.heap.size 0 24 := World.there_setCells (by have h := HN.out; rw [HA.out.2.1] at h; exact h) _ _ _
  have tR : ((w1.alloc (.cells #[.int .u32 0, .int .u32 0, .int .u32 0, .int .u32 0, .int .u32 0, .int .u32 0, .int .u32 0, .int .u32 0, .int .u32 0, .int .u32 0, .int .u32 0, .int .u32 0, .int .u32 0, .int .u32 0, .int .u32 0, .int .u32 0, .int .u32 0, .int .u32 0, .int .u32 0, .int .u32 0, .int .u32 0, .int .u32 0, .int .u32 0, .int .u32 0] 73)).setCells w1.heap.size 0 A.toList).there w.heap.size 0 24 := World.there_setCells (World.there_alloc HW.out.2.there _) _ _ _
  have b2 : Below w.heap.size w ((w1.alloc (.cells #[.int .u32 0, .int .u32 0, .int .u32 0, .int .u32 0, .int .u32 0, .int .u32 0, .int .u32 0, .int .u32 0, .int .u32 0, .int .u32 0, .int .u32 0, .int .u32 0, .int .u32 0, .int .u32 0, .int .u32 0, .int .u32 0, .int .u32 0, .int .u32 0, .int .u32 0, .int .u32 0, .int .u32 0, .int .u32 0, .int .u32 0, .int .u32 0] 73)).setCells w1.heap.size 0 A.toList) := below_setCells HW.out.1.size _ _ _ (HW.out.1.alloc HW.out.1.size _)
  have hlt : w.heap.size ≤ w1.heap.size := HW.out.1.size
  generalize (w1.alloc (.cells #[.int .u32 0, .int .u32 0, .int .u32 0, .int .u32 0, .int .u32 0, .int .u32 0, .int .u32 0, .int .u32 0, .int .u32 0, .int .u32 0, .int .u32 0, .int .u32 0, .int .u32 0, .int .u32 0, .int .u32 0, .int .u32 0, .int .u32 0, .int .u32 0, .int .u32 0, .int .u32 0, .int .u32 0, .int .u32 0, .int .u32 0, .int .u32 0] 73)).setCells w1.heap.size 0 A.toList = W2 at *
  obtain ⟨c2, e2⟩ := Option.isSome_iff_exists.1 (t2 2 (by omega)).1
  obtain ⟨c3, e3⟩ := Option.isSome_iff_exists.1 (t2 3 (by omega)).1
  have f2 := (t2 2 (by omega)).2
  have f3 := (t2 3 (by omega)).2
  rw [Nat.zero_add] at e2 e3 f2 f3
  have HT : Hid (W2.rangeAt w1.heap.size 0 A.toList ∧ W2.there w.heap.size 0 24 ∧ Below w.heap.size w W2 ∧ w.heap.size ≤ w1.heap.size) := ⟨r2, tR, b2, hlt⟩
  clear r2 t2 tR b2 hlt HN HW
  go_upto_region 4 with (fail)
  have hlen : A.toList.length = 24 := by rw [Array.length_toList]; exact HA.out.2.1
  have r3 : ((W2.setCell ⟨w1.heap.size, 2, none⟩ (.int .u32 (hi % 4294967296))).setCell ⟨w1.heap.size, 3, none⟩ (.int .u32 (hi / 4294967296))).rangeAt w1.heap.size 0 ((A.toList.set 2 (.int .u32 (hi % 4294967296))).set 3 (.int .u32 (hi / 4294967296))) := range_set (range_set HT.out.1 (by omega)) (by rw [List.length_set]; omega)
  have t3 : ((W2.setCell ⟨w1.heap.size, 2, none⟩ (.int .u32 (hi % 4294967296))).setCell ⟨w1.heap.size, 3, none⟩ (.int .u32 (hi / 4294967296))).there w.heap.size 0 24 := World.there_setCells (World.there_setCells HT.out.2.1 w1.heap.size 2 [.int .u32 (hi % 4294967296)]) w1.heap.size 3 [.int .u32 (hi / 4294967296)]
  have b3 : Below w.heap.size w ((W2.setCell ⟨w1.heap.size, 2, none⟩ (.int .u32 (hi % 4294967296))).setCell ⟨w1.heap.size, 3, none⟩ (.int .u32 (hi / 4294967296))) := (HT.out.2.2.1.setCell (p := ⟨w1.heap.size, 2, none⟩) HT.out.2.2.2 _).setCell (p := ⟨w1.heap.size, 3, none⟩) HT.out.2.2.2 _
  have hl3 : ((A.toList.set 2 (.int .u32 (hi % 4294967296))).set 3 (.int .u32 (hi / 4294967296))).length = 24 := by rw [List.length_set, List.length_set]; exact hlen
  have hf3 := HA.out.2.2.2
  have ho3 : ∀ v ∈ ((A.toList.set 2 (.int .u32 (hi % 4294967296))).set 3 (.int .u32 (hi / 4294967296))), v.oneCell' = true := by
    intro v hv
    rcases List.mem_or_eq_of_mem_set hv with h | h
    · rcases List.mem_or_eq_of_mem_set h with h | h
      · exact (Array.all_eq_true_iff_forall_mem.1 HA.out.2.2.1) v (by simpa using h)
      · rw [h]; rfl
    · rw [h]; rfl
  generalize ((W2.setCell ⟨w1.heap.size, 2, none⟩ (.int .u32 (hi % 4294967296))).setCell ⟨w1.heap.size, 3, none⟩ (.int .u32 (hi / 4294967296))) = W3 at *
  generalize ((A.toList.set 2 (.int .u32 (hi % 4294967296))).set 3 (.int .u32 (hi / 4294967296))) = C at *
  have hs3 : (Try.prog.info? 73).map (·.size) = some C.length := by rw [hl3]; exact Try.size73
  have ec : C.toArray.size = 24 := by simpa using hl3
  have hs4 : (Try.prog.info? 73).map (·.size) = some C.toArray.size := by rw [ec]; exact Try.size73
  have t4 : W3.there w.heap.size 0 C.toArray.size := by rw [ec]; exact t3
  have HC : Hid (W3.rangeAt w1.heap.size 0 C ∧ W3.there w.heap.size 0 C.toArray.size ∧ Below w.heap.size w W3 ∧ (Try.prog.info? 73).map (·.size) = some C.length ∧ (Try.prog.info? 73).map (·.size) = some C.toArray.size ∧ C.toArray.all (·.oneCell') = true ∧ C.length = 24 ∧ W3.there w.heap.size 0 24) := ⟨r3, t4, b3, hs3, hs4, all_oneCell_toArray ho3, hl3, t3⟩
  have HG : Hid (.agg C.toArray = nv [lo % 4294967296, lo / 4294967296, hi % 4294967296, hi / 4294967296, 0, 0, 0, 0, 0, 0, 0, 0, 0, 0, 0, 0, 0, 0, 0, 0, 0, 0, 0, 0]) := hf3
  clear r3 t3 t4 b3 hs3 hs4 ec ho3 hl3 hf3 hlen e2 e3 f2 f3
  go_wp2_with (first
    | (refine wpList_load_mid rfl 73 (.tmp 5) rfl w1.heap.size 0 rfl C _ HC.out.1 Try.underlying73 rfl HC.out.2.2.2.1 ?_)
    | (refine wpList_store_mid rfl 73 (.tmp 4) (.tmp 15) rfl w.heap.size 0 C.toArray rfl rfl HC.out.2.1 HC.out.2.2.2.2.1 HC.out.2.2.2.2.2.1 ?_))
  have hL : (loadVar 73 ⟨w.heap.size, 0, none⟩).run Try.prog (W3.setCells w.heap.size 0 C) = .ok (.agg C.toArray) (W3.setCells w.heap.size 0 C) := run_loadVar_mid (P := Try.prog) _ w.heap.size 0 73 C _ (World.rangeAt_setCells_same W3 w.heap.size 0 C (by rw [HC.out.2.2.2.2.2.2.1]; exact HC.out.2.2.2.2.2.2.2)) Try.underlying73 rfl HC.out.2.2.2.1
  simp [bodyPost, results, Try.results18]
  exact ⟨.agg C.toArray, hL, HG.out, below_setCells (Nat.le_refl _) _ _ _ HC.out.2.2.1⟩
end Go.Proofs.Qxb6616476a
