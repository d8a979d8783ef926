import Derived.Test.Qxb6616724aShare
import Derived.Test.Qxb6616724aBytes
import Derived.Deep.RegionHeld3
namespace Go.Proofs.Qxb6616724a
open Go.RowKit

/-- it returns a bool; true only if the list ascends; the world has only drawn -/
def IsS (ss : List ByteArray) (e : Ending) : Prop := ∃ t, e = .returned (.bool t) ∧ (t = true → Asc ss)

set_option maxHeartbeats 1000000 in
theorem sorted_any (a : Option Addr) (n c : Nat) (ss : List ByteArray) (w : World) (hS : SS w a n ss) :
    Calls Try.prog 13 #[.slice a n c] w fun e w' => IsS ss e ∧ ∃ k, w' = w.drewN k := by
  have hm : n ≤ maxLen := hS.2.1
  unfold maxLen at hm
  have HS : Hid (SS w a n ss) := hS
  clear hS
  go_enter Try.func13, Try.ntmps13
  go_wp2
  go_loopw [3] (fun i w' => ∃ (k q : Nat), 1 ≤ k ∧ (k ≤ n ∨ k = 1) ∧ i = .int .i64 k ∧ (∀ (t : Nat) (s s' : ByteArray), t + 1 < k → ss[t]? = some s → ss[t + 1]? = some s' → Op.bytesLess s'.toList s.toList = false) ∧ w' = w.drewN q) (fun i _ => n + 1 - (intOf i).toNat)
  case atStart => exact ⟨1, 0, Nat.le_refl _, .inr rfl, rfl, fun t s s' ht => by omega, rfl⟩
  case round =>
    obtain ⟨k, q, hk1, hk, rfl, hI, rfl⟩ := hrel
    have HI : Hid (∀ (t : Nat) (s s' : ByteArray), t + 1 < k → ss[t]? = some s → ss[t + 1]? = some s' → Op.bytesLess s'.toList s.toList = false) := hI
    clear hI
    by_cases hlt : k < n
    · obtain ⟨k, rfl⟩ : ∃ j, k = j + 1 := ⟨k - 1, by omega⟩
      obtain ⟨s, b, off, hs, ms, e1, hbz, hc⟩ := ss_at HS.out k (by omega)
      obtain ⟨s', b', off', hs', ms', e2, hbz', hc'⟩ := ss_at HS.out (k + 1) (by omega)
      subst e1
      cases e2
      have Hs : Hid (ss[k]? = some s ∧ ss[k + 1]? = some s') := ⟨hs, hs'⟩
      clear hs hs' hk
      have i0 : (0 : Int) ≤ ((k + 1 : Nat) : Int) - 1 := by omega
      have i1 : ((k + 1 : Nat) : Int) < (n : Int) := by omega
      have i2 : ((k + 1 : Nat) : Int) - 1 < (n : Int) := by omega
      have i3 : ((k : Int) + 1) < (n : Int) := by omega
      have i4 : (k : Int) < (n : Int) := by omega
      cases hl : Op.bytesLess s'.toList s.toList with
      | true =>
        go_wp2_with fail
        go_quiet (fail)
        go_wp2_with fail
        go_ret
        exact ⟨⟨false, rfl, fun h => by cases h⟩, _, by first | rfl | rw [World.drewN_drewN]⟩
      | false =>
        have HL : Hid (Op.bytesLess s'.toList s.toList = false) := hl
        go_wp2_with fail
        go_quiet (fail)
        go_wp2_with fail
        refine ⟨⟨k + 1 + 1, _, by omega, .inl (by omega), by go_num, ?_, by first | rfl | rw [World.drewN_drewN]⟩, by simp [intOf]; omega⟩
        intro t u u' ht hu hu'
        rcases Nat.lt_or_ge (t + 1) (k + 1) with h | h
        · exact HI.out t u u' h hu hu'
        · obtain rfl : t = k := by omega
          rw [Hs.out.1] at hu
          rw [Hs.out.2] at hu'
          cases hu
          cases hu'
          exact HL.out
    · have HF : Hid (Asc ss) := asc_of ss (fun t s s' hs hs' => HI.out t s s' (by
        have hl : t + 1 < ss.length := by
          rcases Nat.lt_or_ge (t + 1) ss.length with h | h
          · exact h
          · rw [List.getElem?_eq_none h] at hs'; cases hs'
        have := HS.out.1
        omega) hs hs')
      go_wp2_with fail
      go_ret
      exact ⟨⟨true, rfl, fun _ => HF.out⟩, _, rfl⟩

theorem changes_any (v0 v1 v2 : Value) (a0 a1 a2 : Option Addr) (n0 n1 n2 c0 c1 c2 : Nat) (w : World) (e0 : v0 = .slice a0 n0 c0) (e1 : v1 = .slice a1 n1 c1) (e2 : v2 = .slice a2 n2 c2) :
    Calls Try.prog 8 #[v0, v1, v2] w fun e w' => e = .returned (.agg #[v0, v1, v2]) ∧ w' = w.alloc (.cells #[v0, v1, v2] 25) := by
  subst e0 e1 e2
  go_enter Try.func8, Try.ntmps8
  go_wp2
  simp [bodyPost, results, Try.results8, go_sem]

/-- all six ascend -/
def IsS6 (s0 s1 s2 s3 s4 s5 : List ByteArray) (e : Ending) : Prop := ∃ t, e = .returned (.bool t) ∧ (t = true → Asc s0 ∧ Asc s1 ∧ Asc s2 ∧ Asc s3 ∧ Asc s4 ∧ Asc s5)
theorem ss_drews {w : World} {a : Option Addr} {n : Nat} {ss : List ByteArray} (k : Nat) (h : SS w a n ss) : SS (w.drewN k) a n ss := ss_below (below_drews _ w k) h
theorem sorted6_any (a0 a1 a2 a3 a4 a5 : Option Addr) (n0 n1 n2 n3 n4 n5 c0 c1 c2 c3 c4 c5 : Nat) (s0 s1 s2 s3 s4 s5 : List ByteArray) (w : World) (h0 : SS w a0 n0 s0) (h1 : SS w a1 n1 s1) (h2 : SS w a2 n2 s2) (h3 : SS w a3 n3 s3) (h4 : SS w a4 n4 s4) (h5 : SS w a5 n5 s5) :
    Calls Try.prog 7 #[.slice a0 n0 c0, .slice a1 n1 c1, .slice a2 n2 c2, .slice a3 n3 c3, .slice a4 n4 c4, .slice a5 n5 c5] w fun e w' => IsS6 s0 s1 s2 s3 s4 s5 e ∧ ∃ k, w' = w.drewN k := by
  have H0 : Hid (SS w a0 n0 s0) := h0
  have H1 : Hid (SS w a1 n1 s1) := h1
  have H2 : Hid (SS w a2 n2 s2) := h2
  have H3 : Hid (SS w a3 n3 s3) := h3
  have H4 : Hid (SS w a4 n4 s4) := h4
  have H5 : Hid (SS w a5 n5 s5) := h5
  clear h0 h1 h2 h3 h4 h5
  go_enter Try.func7, Try.ntmps7
  go_wp2_with fail
  refine (sorted_any a0 n0 c0 s0 _ H0.out).mono ?_
  rintro e w' ⟨⟨t0, rfl, g0⟩, k0, hv⟩
  obtain ⟨K0, hw⟩ : ∃ K, w' = w.drewN K := ⟨_, hv⟩
  clear hv
  subst hw
  have G0 : Hid (t0 = true → Asc s0) := g0
  clear g0
  cases t0 with
  | false =>
    go_wp2_with fail
    go_ret
    exact ⟨⟨false, rfl, fun h => by cases h⟩, _, rfl⟩
  | true =>
    replace G0 : Hid (Asc s0) := G0.out rfl
    go_wp2_with fail
    refine (sorted_any a1 n1 c1 s1 _ (ss_drews K0 H1.out)).mono ?_
    rintro e w' ⟨⟨t1, rfl, g1⟩, k1, hv⟩
    obtain ⟨K1, hw⟩ : ∃ K, w' = w.drewN K := ⟨_, hv.trans (World.drewN_drewN _ _ _)⟩
    clear hv
    subst hw
    have G1 : Hid (t1 = true → Asc s1) := g1
    clear g1
    cases t1 with
    | false =>
      go_wp2_with fail
      go_ret
      exact ⟨⟨false, rfl, fun h => by cases h⟩, _, rfl⟩
    | true =>
      replace G1 : Hid (Asc s1) := G1.out rfl
      go_wp2_with fail
      refine (sorted_any a2 n2 c2 s2 _ (ss_drews K1 H2.out)).mono ?_
      rintro e w' ⟨⟨t2, rfl, g2⟩, k2, hv⟩
      obtain ⟨K2, hw⟩ : ∃ K, w' = w.drewN K := ⟨_, hv.trans (World.drewN_drewN _ _ _)⟩
      clear hv
      subst hw
      have G2 : Hid (t2 = true → Asc s2) := g2
      clear g2
      cases t2 with
      | false =>
        go_wp2_with fail
        go_ret
        exact ⟨⟨false, rfl, fun h => by cases h⟩, _, rfl⟩
      | true =>
        replace G2 : Hid (Asc s2) := G2.out rfl
        go_wp2_with fail
        refine (sorted_any a3 n3 c3 s3 _ (ss_drews K2 H3.out)).mono ?_
        rintro e w' ⟨⟨t3, rfl, g3⟩, k3, hv⟩
        obtain ⟨K3, hw⟩ : ∃ K, w' = w.drewN K := ⟨_, hv.trans (World.drewN_drewN _ _ _)⟩
        clear hv
        subst hw
        have G3 : Hid (t3 = true → Asc s3) := g3
        clear g3
        cases t3 with
        | false =>
          go_wp2_with fail
          go_ret
          exact ⟨⟨false, rfl, fun h => by cases h⟩, _, rfl⟩
        | true =>
          replace G3 : Hid (Asc s3) := G3.out rfl
          go_wp2_with fail
          refine (sorted_any a4 n4 c4 s4 _ (ss_drews K3 H4.out)).mono ?_
          rintro e w' ⟨⟨t4, rfl, g4⟩, k4, hv⟩
          obtain ⟨K4, hw⟩ : ∃ K, w' = w.drewN K := ⟨_, hv.trans (World.drewN_drewN _ _ _)⟩
          clear hv
          subst hw
          have G4 : Hid (t4 = true → Asc s4) := g4
          clear g4
          cases t4 with
          | false =>
            go_wp2_with fail
            go_ret
            exact ⟨⟨false, rfl, fun h => by cases h⟩, _, rfl⟩
          | true =>
            replace G4 : Hid (Asc s4) := G4.out rfl
            go_wp2_with fail
            refine (sorted_any a5 n5 c5 s5 _ (ss_drews K4 H5.out)).mono ?_
            rintro e w' ⟨⟨t5, rfl, g5⟩, k5, hv⟩
            obtain ⟨K5, hw⟩ : ∃ K, w' = w.drewN K := ⟨_, hv.trans (World.drewN_drewN _ _ _)⟩
            clear hv
            subst hw
            have G5 : Hid (t5 = true → Asc s5) := g5
            clear g5
            cases t5 with
            | false =>
              go_wp2_with fail
              go_ret
              exact ⟨⟨false, rfl, fun h => by cases h⟩, _, rfl⟩
            | true =>
              replace G5 : Hid (Asc s5) := G5.out rfl
              go_wp2_with fail
              go_ret
              exact ⟨⟨true, rfl, fun _ => ⟨G0.out, G1.out, G2.out, G3.out, G4.out, G5.out⟩⟩, _, rfl⟩
end Go.Proofs.Qxb6616724a
