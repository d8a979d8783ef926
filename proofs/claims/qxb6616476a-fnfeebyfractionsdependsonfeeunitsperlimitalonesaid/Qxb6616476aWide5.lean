import Derived.Test.Qxb6616476aWide4
import Derived.Deep.RegionHeld3
import Derived.Deep.OwnRows
import Derived.Deep.AppendLies
import Derived.WalkSmall
namespace Go.Proofs.Qxb6616476a
open Go.RowKit Go.Lib

theorem V4_nonneg {a b c d : Int} (h : Word a ∧ Word b ∧ Word c ∧ Word d) : 0 ≤ V4 a b c d := by
  obtain ⟨⟨a1, _⟩, ⟨b1, _⟩, ⟨c1, _⟩, ⟨d1, _⟩⟩ := h
  unfold V4
  omega
/-- a block known whole -/
def Blk (w : World) (b : Nat) (cs : Array Value) (t : TypeId) : Prop := w.heap[b]? = some (.cells cs t (0, 0))
theorem Blk.cell {w : World} {b : Nat} {cs : Array Value} {t : TypeId} (h : Blk w b cs t) (i : Nat) : w.cell? ⟨b, i, none⟩ = cs[i]? := by
  unfold Blk at h
  simp [World.cell?, h]
theorem Blk.froz {w : World} {b : Nat} {cs : Array Value} {t : TypeId} (h : Blk w b cs t) (i : Nat) : w.frozen? ⟨b, i, none⟩ = false := by
  unfold Blk at h
  simp [World.frozen?, h]
theorem Blk.lt {w : World} {b : Nat} {cs : Array Value} {t : TypeId} (h : Blk w b cs t) : b < w.heap.size := (Array.getElem?_eq_some_iff.1 h).1
theorem Blk.below {w w' : World} {b : Nat} {cs : Array Value} {t : TypeId} (h : Blk w b cs t) (hb : Below w.heap.size w w') : Blk w' b cs t := (hb.block b h.lt).trans h
theorem Blk.new (w : World) (cs : Array Value) (t : TypeId) : Blk (w.alloc (.cells cs t)) w.heap.size cs t := Go.Deep.blk_alloc_new _ _
theorem Blk.alloc {w : World} {b : Nat} {cs : Array Value} {t : TypeId} (h : Blk w b cs t) (o : Obj) : Blk (w.alloc o) b cs t := (Below.heap_alloc _ _ _ h.lt).trans h
theorem Blk.set {w : World} {b : Nat} {cs : Array Value} {t : TypeId} (h : Blk w b cs t) (p : Addr) (v : Value) (hp : b ≠ p.block) : Blk (w.setCell p v) b cs t := (Below.heap_setCell _ _ _ _ hp).trans h

theorem Blk.set4 {w : World} {b : Nat} {c0 c1 c2 c3 : Value} {t : TypeId} (h : Blk w b #[c0, c1, c2, c3] t) (v0 v1 v2 v3 : Value) :
    Blk ((((w.setCell ⟨b, 0, none⟩ v0).setCell ⟨b, 1, none⟩ v1).setCell ⟨b, 2, none⟩ v2).setCell ⟨b, 3, none⟩ v3) b #[v0, v1, v2, v3] t := by
  unfold Blk at *
  simp [World.setCell, Array.getElem?_modify, h]

set_option maxHeartbeats 4000000 in
/-- (uint256).mul128 -/
theorem mul128 (a3 a2 a1 a0 b1 b0 : Int) (h3 : Word a3) (h2 : Word a2) (h1 : Word a1) (h0 : Word a0) (g1 : Word b1) (g0 : Word b0) (w : World) :
    Calls Try.prog 31 #[.agg #[.int .u64 a3, .int .u64 a2, .int .u64 a1, .int .u64 a0], .agg #[.int .u64 b1, .int .u64 b0]] w fun e w' => IsMul (V4 a3 a2 a1 a0) (V2 b1 b0) e ∧ Below w.heap.size w w' := by
  have HW : Hid ((Word a3 ∧ Word a2 ∧ Word a1 ∧ Word a0) ∧ Word b1 ∧ Word b0) := ⟨⟨h3, h2, h1, h0⟩, g1, g0⟩
  clear h3 h2 h1 h0 g1 g0
  have HB0 : Hid (Below w.heap.size w (((w.alloc (.cells #[.int .u64 a3, .int .u64 a2, .int .u64 a1, .int .u64 a0] 93)).alloc (.cells #[.int .u64 b1, .int .u64 b0] 60)).alloc (.cells #[.int .u64 0, .int .u64 0, .int .u64 0, .int .u64 0] 93)) ∧
      Blk (((w.alloc (.cells #[.int .u64 a3, .int .u64 a2, .int .u64 a1, .int .u64 a0] 93)).alloc (.cells #[.int .u64 b1, .int .u64 b0] 60)).alloc (.cells #[.int .u64 0, .int .u64 0, .int .u64 0, .int .u64 0] 93)) w.heap.size #[.int .u64 a3, .int .u64 a2, .int .u64 a1, .int .u64 a0] 93 ∧
      Blk (((w.alloc (.cells #[.int .u64 a3, .int .u64 a2, .int .u64 a1, .int .u64 a0] 93)).alloc (.cells #[.int .u64 b1, .int .u64 b0] 60)).alloc (.cells #[.int .u64 0, .int .u64 0, .int .u64 0, .int .u64 0] 93)) (w.heap.size + 1) #[.int .u64 b1, .int .u64 b0] 60 ∧
      Blk (((w.alloc (.cells #[.int .u64 a3, .int .u64 a2, .int .u64 a1, .int .u64 a0] 93)).alloc (.cells #[.int .u64 b1, .int .u64 b0] 60)).alloc (.cells #[.int .u64 0, .int .u64 0, .int .u64 0, .int .u64 0] 93)) (w.heap.size + 1 + 1) #[.int .u64 0, .int .u64 0, .int .u64 0, .int .u64 0] 93) := by
    refine ⟨by go_grown, (Blk.new _ _ _).alloc _ |>.alloc _, ?_, ?_⟩
    · have h := Blk.new (w.alloc (.cells #[.int .u64 a3, .int .u64 a2, .int .u64 a1, .int .u64 a0] 93)) #[.int .u64 b1, .int .u64 b0] 60
      simp only [World.size_alloc] at h
      exact h.alloc _
    · have h := Blk.new ((w.alloc (.cells #[.int .u64 a3, .int .u64 a2, .int .u64 a1, .int .u64 a0] 93)).alloc (.cells #[.int .u64 b1, .int .u64 b0] 60)) #[.int .u64 0, .int .u64 0, .int .u64 0, .int .u64 0] 93
      simp only [World.size_alloc] at h
      exact h
  go_enter Try.func31, Try.ntmps31
  go_wp2_with fail
  refine (mul256 a3 a2 a1 a0 b0 HW.out.1.1 HW.out.1.2.1 HW.out.1.2.2.1 HW.out.1.2.2.2 HW.out.2.2 _).mono ?_
  rintro e w1 ⟨⟨k, r3, r2, r1, r0, ok, rfl, hr, hk, hk0, hok⟩, hb⟩
  have H1 : Hid (Below w.heap.size w w1 ∧ (Word r3 ∧ Word r2 ∧ Word r1 ∧ Word r0) ∧ V4 a3 a2 a1 a0 * b0 = V5 k r3 r2 r1 r0 ∧ 0 ≤ k ∧ (ok = true ↔ k = 0)) := ⟨HB0.out.1.trans (hb.mono HB0.out.1.size), hr, hk, hk0, hok⟩
  have HB1 : Hid (Blk w1 w.heap.size #[.int .u64 a3, .int .u64 a2, .int .u64 a1, .int .u64 a0] 93 ∧ Blk w1 (w.heap.size + 1) #[.int .u64 b1, .int .u64 b0] 60 ∧ Blk w1 (w.heap.size + 1 + 1) #[.int .u64 0, .int .u64 0, .int .u64 0, .int .u64 0] 93) := ⟨HB0.out.2.1.below hb, HB0.out.2.2.1.below hb, HB0.out.2.2.2.below hb⟩
  clear HB0 hb hr hk hk0 hok
  have s1 := HB1.out.1.lt
  have s2 := HB1.out.2.1.lt
  have s3 := HB1.out.2.2.lt
  have x0 := HB1.out.1.cell 0
  have x1 := HB1.out.1.cell 1
  have x2 := HB1.out.1.cell 2
  have x3 := HB1.out.1.cell 3
  have y0 := HB1.out.2.1.cell 0
  have y1 := HB1.out.2.1.cell 1
  simp at x0 x1 x2 x3 y0 y1
  go_wp2_with fail
  refine (mul256 a3 a2 a1 a0 b1 HW.out.1.1 HW.out.1.2.1 HW.out.1.2.2.1 HW.out.1.2.2.2 HW.out.2.1 _).mono ?_
  rintro e w2 ⟨⟨k', t3, t2, t1, t0, ok', rfl, hr', hk', hk0', hok'⟩, hb⟩
  have hbA : Below w1.heap.size w1 (w1.alloc (.cells #[.int .u64 r3, .int .u64 r2, .int .u64 r1, .int .u64 r0] 93)) := by go_grown
  have H2 : Hid (Below w.heap.size w w2 ∧ (Word t3 ∧ Word t2 ∧ Word t1 ∧ Word t0) ∧ V4 a3 a2 a1 a0 * b1 = V5 k' t3 t2 t1 t0 ∧ 0 ≤ k' ∧ (ok' = true ↔ k' = 0)) := ⟨(H1.out.1.trans (hbA.mono H1.out.1.size)).trans (hb.mono (Nat.le_trans H1.out.1.size hbA.size)), hr', hk', hk0', hok'⟩
  have HB2 : Hid (Blk w2 (w.heap.size + 1 + 1) #[.int .u64 0, .int .u64 0, .int .u64 0, .int .u64 0] 93 ∧ Blk w2 w1.heap.size #[.int .u64 r3, .int .u64 r2, .int .u64 r1, .int .u64 r0] 93) := ⟨(HB1.out.2.2.below hbA).below hb, (Blk.new _ _ _).below hb⟩
  clear hb hbA hr' hk' hk0' hok' x0 x1 x2 x3 y0 y1 s1 s2
  have s4 := HB2.out.2.lt
  have z0 := HB2.out.2.cell 0
  have z1 := HB2.out.2.cell 1
  have z2 := HB2.out.2.cell 2
  have z3 := HB2.out.2.cell 3
  simp at z0 z1 z2 z3
  go_wp2_with fail
  refine (add256 r3 r2 r1 r0 t2 t1 t0 0 H1.out.2.1.1 H1.out.2.1.2.1 H1.out.2.1.2.2.1 H1.out.2.1.2.2.2 H2.out.2.1.2.1 H2.out.2.1.2.2.1 H2.out.2.1.2.2.2 ⟨by decide, by decide⟩ _).mono ?_
  rintro e w3 ⟨⟨m, u3, u2, u1, u0, ok2, rfl, hu, hm, hm0, hok2⟩, hb⟩
  have hbA : Below w2.heap.size w2 (w2.alloc (.cells #[.int .u64 t3, .int .u64 t2, .int .u64 t1, .int .u64 t0] 93)) := by go_grown
  have HB3 : Hid (Blk w3 (w.heap.size + 1 + 1) #[.int .u64 0, .int .u64 0, .int .u64 0, .int .u64 0] 93 ∧ Blk w3 w2.heap.size #[.int .u64 t3, .int .u64 t2, .int .u64 t1, .int .u64 t0] 93 ∧ Below w.heap.size w w3) := ⟨(HB2.out.1.below hbA).below hb, (Blk.new _ _ _).below hb, (H2.out.1.trans (hbA.mono H2.out.1.size)).trans (hb.mono (Nat.le_trans H2.out.1.size hbA.size))⟩
  have hfin : IsMul (V4 a3 a2 a1 a0) (V2 b1 b0) (.returned (.tuple #[.agg #[.int .u64 u3, .int .u64 u2, .int .u64 u1, .int .u64 u0], .bool (ok && ok' && (t3 == 0) && ok2)])) := by
    obtain ⟨_, hr, hk, hk0, hok⟩ := H1.out
    obtain ⟨_, ht, hk', hk0', hok'⟩ := H2.out
    refine ⟨k + k' * 18446744073709551616 + t3 + m, u3, u2, u1, u0, _, rfl, hu, ?_, ?_, ?_⟩
    · have e1 : V4 a3 a2 a1 a0 * V2 b1 b0 = V4 a3 a2 a1 a0 * b1 * 18446744073709551616 + V4 a3 a2 a1 a0 * b0 := by
        unfold V2
        rw [Int.mul_add, Int.mul_assoc]
      rw [e1, hk, hk']
      unfold V4 V5 at *
      omega
    · have := ht.1.1
      omega
    · have := ht.1.1
      rw [Bool.and_eq_true, Bool.and_eq_true, Bool.and_eq_true, hok, hok', hok2, beq_iff_eq]
      omega
  have HF : Hid (IsMul (V4 a3 a2 a1 a0) (V2 b1 b0) (.returned (.tuple #[.agg #[.int .u64 u3, .int .u64 u2, .int .u64 u1, .int .u64 u0], .bool (ok && ok' && (t3 == 0) && ok2)]))) := hfin
  clear hb hbA hu hm hm0 hok2 hfin H1 H2 HB1 HB2 HW
  clear z0 z1 z2 z3 s3 s4
  have s5 := HB3.out.1.lt
  have s6 := HB3.out.2.1.lt
  have v0 := HB3.out.2.1.cell 0
  have v1 := HB3.out.2.1.cell 1
  have v2 := HB3.out.2.1.cell 2
  have v3 := HB3.out.2.1.cell 3
  have q0 := HB3.out.1.cell 0
  have q1 := HB3.out.1.cell 1
  have q2 := HB3.out.1.cell 2
  have q3 := HB3.out.1.cell 3
  simp at v0 v1 v2 v3 q0 q1 q2 q3
  have f0 := HB3.out.1.froz 0
  have f1 := HB3.out.1.froz 1
  have f2 := HB3.out.1.froz 2
  have f3 := HB3.out.1.froz 3
  have RB : ∀ o : Obj, Blk (((((w3.setCell ⟨w.heap.size + 1 + 1, 0, none⟩ (.int .u64 u3)).setCell ⟨w.heap.size + 1 + 1, 1, none⟩ (.int .u64 u2)).setCell ⟨w.heap.size + 1 + 1, 2, none⟩ (.int .u64 u1)).setCell ⟨w.heap.size + 1 + 1, 3, none⟩ (.int .u64 u0)).alloc o) (w.heap.size + 1 + 1) #[.int .u64 u3, .int .u64 u2, .int .u64 u1, .int .u64 u0] 93 := fun o => (HB3.out.1.set4 _ _ _ _).alloc o
  have R0 := fun o => (RB o).cell 0
  have R1 := fun o => (RB o).cell 1
  have R2 := fun o => (RB o).cell 2
  have R3 := fun o => (RB o).cell 3
  have hRB : Hid (∀ o : Obj, Blk (((((w3.setCell ⟨w.heap.size + 1 + 1, 0, none⟩ (.int .u64 u3)).setCell ⟨w.heap.size + 1 + 1, 1, none⟩ (.int .u64 u2)).setCell ⟨w.heap.size + 1 + 1, 2, none⟩ (.int .u64 u1)).setCell ⟨w.heap.size + 1 + 1, 3, none⟩ (.int .u64 u0)).alloc o) (w.heap.size + 1 + 1) #[.int .u64 u3, .int .u64 u2, .int .u64 u1, .int .u64 u0] 93) := RB
  clear RB
  simp only [List.getElem?_toArray, List.getElem?_cons_zero, List.getElem?_cons_succ] at R0 R1 R2 R3
  cases ok with
  | false =>
    go_wp2_with fail
    simp [bodyPost, results, Try.results31, go_sem, R0, R1, R2, R3]
    exact ⟨HF.out, (((((HB3.out.2.2.setCell (p := ⟨w.heap.size + 1 + 1, 0, none⟩) (by simp; omega) _).setCell (p := ⟨w.heap.size + 1 + 1, 1, none⟩) (by simp; omega) _).setCell (p := ⟨w.heap.size + 1 + 1, 2, none⟩) (by simp; omega) _).setCell (p := ⟨w.heap.size + 1 + 1, 3, none⟩) (by simp; omega) _)).alloc (by have := HB3.out.2.2.size; simpa using this) _⟩
  | true =>
    cases ok' with
    | false =>
      go_wp2_with fail
      simp [bodyPost, results, Try.results31, go_sem, R0, R1, R2, R3]
      exact ⟨HF.out, (((((HB3.out.2.2.setCell (p := ⟨w.heap.size + 1 + 1, 0, none⟩) (by simp; omega) _).setCell (p := ⟨w.heap.size + 1 + 1, 1, none⟩) (by simp; omega) _).setCell (p := ⟨w.heap.size + 1 + 1, 2, none⟩) (by simp; omega) _).setCell (p := ⟨w.heap.size + 1 + 1, 3, none⟩) (by simp; omega) _)).alloc (by have := HB3.out.2.2.size; simpa using this) _⟩
    | true =>
      by_cases ht3 : t3 = 0
      · subst ht3
        go_wp2_with fail
        simp [bodyPost, results, Try.results31, go_sem, R0, R1, R2, R3]
        exact ⟨HF.out, (((((HB3.out.2.2.setCell (p := ⟨w.heap.size + 1 + 1, 0, none⟩) (by simp; omega) _).setCell (p := ⟨w.heap.size + 1 + 1, 1, none⟩) (by simp; omega) _).setCell (p := ⟨w.heap.size + 1 + 1, 2, none⟩) (by simp; omega) _).setCell (p := ⟨w.heap.size + 1 + 1, 3, none⟩) (by simp; omega) _)).alloc (by have := HB3.out.2.2.size; simpa using this) _⟩
      · have ht4 : (t3 == 0) = false := by simpa using ht3
        go_wp2_with fail
        simp [bodyPost, results, Try.results31, go_sem, R0, R1, R2, R3]
        exact ⟨by have h := HF.out; rw [ht4] at h; exact h, (((((HB3.out.2.2.setCell (p := ⟨w.heap.size + 1 + 1, 0, none⟩) (by simp; omega) _).setCell (p := ⟨w.heap.size + 1 + 1, 1, none⟩) (by simp; omega) _).setCell (p := ⟨w.heap.size + 1 + 1, 2, none⟩) (by simp; omega) _).setCell (p := ⟨w.heap.size + 1 + 1, 3, none⟩) (by simp; omega) _)).alloc (by have := HB3.out.2.2.size; simpa using this) _⟩
end Go.Proofs.Qxb6616476a
