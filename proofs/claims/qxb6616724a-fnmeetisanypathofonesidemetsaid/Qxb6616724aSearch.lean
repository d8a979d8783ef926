import Derived.Test.Qxb6616724aHolds
namespace Go.Proofs.Qxb6616724a
open Go.RowKit

theorem below_drews (B : Nat) (w : World) (n : Nat) : Below B w (w.drewN n) := ⟨rfl, rfl, rfl, Nat.le_refl _, fun _ _ => rfl⟩

theorem clo_any (b off n c i p q : Nat) (s x : ByteArray) (w : World) (hi : (i : Int) < (n : Int)) (hp : w.cell? ⟨p, 0, none⟩ = some (.slice (some ⟨b, off, none⟩) n c)) (hq : w.cell? ⟨q, 0, none⟩ = some (.string x)) (hc : w.cell? ⟨b, off + i, none⟩ = some (.string s)) :
    Calls Try.prog 17 #[.int .i64 i, .pointer (some ⟨p, 0, none⟩), .pointer (some ⟨q, 0, none⟩)] w fun e w' => e = .returned (.bool (!Op.bytesLess s.toList x.toList)) ∧ ∃ k, w' = w.drewN k := by
  go_enter Try.func17, Try.ntmps17
  go_wp2
  go_quiet (fail)
  go_wp2
  go_ret
  exact ⟨rfl, _, rfl⟩

/-- the lower bound -/
def Bound (ss : List ByteArray) (x : ByteArray) (i : Nat) : Prop :=
  (∀ (t : Nat) (s : ByteArray), t < i → ss[t]? = some s → Op.bytesLess s.toList x.toList = true) ∧ (∀ (t : Nat) (s : ByteArray), i ≤ t → ss[t]? = some s → Op.bytesLess s.toList x.toList = false)

set_option maxHeartbeats 1000000 in
theorem search_any (b off n c p q : Nat) (x : ByteArray) (ss : List ByteArray) (w : World) (hS : SS w (some ⟨b, off, none⟩) n ss) (hn4 : n ≤ 4096) (hA : Asc ss) (hp : w.cell? ⟨p, 0, none⟩ = some (.slice (some ⟨b, off, none⟩) n c)) (hq : w.cell? ⟨q, 0, none⟩ = some (.string x)) (pz : p < w.heap.size) (qz : q < w.heap.size) :
    Calls Try.prog 16 #[.int .i64 n, .func (.func 17) #[] #[.pointer (some ⟨p, 0, none⟩), .pointer (some ⟨q, 0, none⟩)]] w fun e w' => (∃ i : Nat, e = .returned (.int .i64 i) ∧ i ≤ n ∧ Bound ss x i) ∧ Below w.heap.size w w' := by
  have HS : Hid (SS w (some ⟨b, off, none⟩) n ss) := hS
  have HA : Hid (Asc ss) := hA
  have HP : Hid (w.cell? ⟨p, 0, none⟩ = some (.slice (some ⟨b, off, none⟩) n c) ∧ w.cell? ⟨q, 0, none⟩ = some (.string x)) := ⟨hp, hq⟩
  clear hS hA hp hq
  go_enter Try.func16, Try.ntmps16
  go_wp2
  go_loopw [5, 6] (fun i j w' => ∃ (lo hi : Nat), lo ≤ hi ∧ hi ≤ n ∧ i = .int .i64 lo ∧ j = .int .i64 hi ∧ ((∀ (t : Nat) (s : ByteArray), t < lo → ss[t]? = some s → Op.bytesLess s.toList x.toList = true) ∧ (∀ (t : Nat) (s : ByteArray), hi ≤ t → ss[t]? = some s → Op.bytesLess s.toList x.toList = false)) ∧ Below w.heap.size w w') (fun i j _ => (intOf j - intOf i).toNat)
  case atStart => exact ⟨0, n, Nat.zero_le _, Nat.le_refl _, rfl, rfl, ⟨fun t s ht => by omega, fun t s ht hs => by rw [List.getElem?_eq_none (by have := HS.out.1; omega)] at hs; cases hs⟩, Below.refl _ _⟩
  case round =>
    obtain ⟨lo, hi, hlh, hhn, rfl, rfl, hI, hb⟩ := hrel
    have HI : Hid ((∀ (t : Nat) (s : ByteArray), t < lo → ss[t]? = some s → Op.bytesLess s.toList x.toList = true) ∧ (∀ (t : Nat) (s : ByteArray), hi ≤ t → ss[t]? = some s → Op.bytesLess s.toList x.toList = false)) := hI
    have HB : Hid (Below w.heap.size w wr) := hb
    clear hI hb
    by_cases hlt : lo < hi
    · obtain ⟨s, b', off', hs, _, eb, _, hc⟩ := ss_at (ss_below HB.out HS.out) ((lo + hi) / 2) (by omega)
      cases eb
      have C : Hid (Calls Try.prog 17 #[.int .i64 (((lo + hi) / 2 : Nat) : Int), .pointer (some ⟨p, 0, none⟩), .pointer (some ⟨q, 0, none⟩)] wr fun e w' => e = .returned (.bool (!Op.bytesLess s.toList x.toList)) ∧ ∃ k, w' = wr.drewN k) :=
        clo_any b off n c ((lo + hi) / 2) p q s x wr (by omega) ((HB.out.cell (p := ⟨p, 0, none⟩) pz).trans HP.out.1) ((HB.out.cell (p := ⟨q, 0, none⟩) qz).trans HP.out.2) hc
      have Hs : Hid (ss[(lo + hi) / 2]? = some s) := hs
      clear hs hc
      cases hless : Op.bytesLess s.toList x.toList with
      | true =>
        have HL : Hid (Op.bytesLess s.toList x.toList = true) := hless
        rw [hless] at C
        clear hless
        go_wp2_with fail
        rw [show ((lo : Int) + (hi : Int)) / 2 = (((lo + hi) / 2 : Nat) : Int) from by omega]
        refine C.out.mono ?_
        clear C
        rintro e w1 ⟨rfl, nq, rfl⟩
        go_wp2_with fail
        refine ⟨⟨(lo + hi) / 2 + 1, hi, by omega, hhn, by go_num, rfl, ⟨fun t s' ht hs' => ?_, HI.out.2⟩, HB.out.trans (below_drews _ _ _)⟩, by simp [intOf]; omega⟩
        exact le_lt_trans _ _ _ (HA.out t ((lo + hi) / 2) s' s (by omega) hs' Hs.out) HL.out
      | false =>
        have HL : Hid (Op.bytesLess s.toList x.toList = false) := hless
        rw [hless] at C
        clear hless
        go_wp2_with fail
        rw [show ((lo : Int) + (hi : Int)) / 2 = (((lo + hi) / 2 : Nat) : Int) from by omega]
        refine C.out.mono ?_
        clear C
        rintro e w1 ⟨rfl, nq, rfl⟩
        go_wp2_with fail
        refine ⟨⟨lo, (lo + hi) / 2, by omega, by omega, rfl, rfl, ⟨HI.out.1, fun t s' ht hs' => ?_⟩, HB.out.trans (below_drews _ _ _)⟩, by simp [intOf]; omega⟩
        cases h : Op.bytesLess s'.toList x.toList with
        | false => rfl
        | true =>
          have := le_lt_trans _ _ _ (HA.out ((lo + hi) / 2) t s s' ht Hs.out hs') h
          rw [HL.out] at this
          exact this.symm
    · go_wp2_with fail
      go_ret
      have e : lo = hi := by omega
      subst e
      exact ⟨⟨lo, rfl, hhn, HI.out⟩, HB.out⟩

theorem search_zero (f : Value) (w : World) : Calls Try.prog 16 #[.int .i64 0, f] w fun e w' => e = .returned (.int .i64 0) ∧ w' = w := by
  go_enter Try.func16, Try.ntmps16
  go_wp2
  go_loop [5, 6] (fun i j => i = .int .i64 0 ∧ j = .int .i64 0) (fun _ _ => 0)
  case atStart => exact ⟨rfl, rfl⟩
  case round =>
    obtain ⟨rfl, rfl⟩ := hrel
    go_wp2_with fail
    go_ret
    exact ⟨rfl, rfl⟩

/-- sort.SearchStrings -/
theorem ss_any (a : Option Addr) (n c : Nat) (x : ByteArray) (ss : List ByteArray) (w : World) (hS : SS w a n ss) (hn4 : n ≤ 4096) (hA : Asc ss) :
    Calls Try.prog 15 #[.slice a n c, .string x] w fun e w' => (∃ i : Nat, e = .returned (.int .i64 i) ∧ i ≤ n ∧ Bound ss x i) ∧ Below w.heap.size w w' := by
  have HS : Hid (SS w a n ss) := hS
  have HA : Hid (Asc ss) := hA
  have hb2 : Below w.heap.size w ((w.alloc (.cells #[.slice a n c] 22)).alloc (.cells #[.string x] 9)) := ((Below.refl _ _).alloc (Nat.le_refl _) _).alloc (by simp) _
  have HB2 : Hid (Below w.heap.size w ((w.alloc (.cells #[.slice a n c] 22)).alloc (.cells #[.string x] 9))) := hb2
  clear hS hA hb2
  by_cases h0 : n = 0
  · subst h0
    go_enter Try.func15, Try.ntmps15
    go_wp2_with fail
    refine (search_zero _ _).mono ?_
    rintro e w1 ⟨rfl, rfl⟩
    go_wp2_with fail
    go_ret
    exact ⟨⟨0, rfl, Nat.le_refl _, fun t s ht => by omega, fun t s ht hs => by rw [List.getElem?_eq_none (by have := HS.out.1; omega)] at hs; cases hs⟩, HB2.out⟩
  · obtain ⟨_, b, off, _, _, ea, _⟩ := ss_at HS.out 0 (by omega)
    subst ea
    go_enter Try.func15, Try.ntmps15
    go_wp2_with fail
    refine (search_any b off n c w.heap.size (w.heap.size + 1) x ss _ (ss_below HB2.out HS.out) hn4 HA.out (by rw [World.cell?_alloc_past _ _ _ (by rw [World.size_alloc]; omega)]; simp) (by rw [World.cell?_alloc_at _ _ _ _ (by rw [World.size_alloc])]; rfl) (by simp only [World.size_alloc]; omega) (by simp only [World.size_alloc]; omega)).mono ?_
    rintro e w1 ⟨⟨i, rfl, hi, hbd⟩, hb⟩
    have HB3 : Hid (Below w.heap.size w w1) := HB2.out.trans (hb.mono HB2.out.size)
    have HBD : Hid (Bound ss x i) := hbd
    clear hb hbd
    go_wp2_with fail
    go_ret
    exact ⟨⟨i, rfl, hi, HBD.out⟩, HB3.out⟩
end Go.Proofs.Qxb6616724a
