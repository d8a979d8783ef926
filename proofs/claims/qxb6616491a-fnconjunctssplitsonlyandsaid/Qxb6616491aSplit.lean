import Derived.Test.Qxb6616491aFits

namespace Go.Proofs.Qxb6616491a
open Go.RowKit Go.Deep

/-- one node more, of whatever operator -/
theorem rep_new' {w : World} {l r : BT ByteArray} {op : ByteArray} (hl : rep w l) (hr : rep w r) (u v : Value) (hu : val l = u) (hv : val r = v) :
    rep (w.alloc (.cells #[.string op, u, v] 29)) (.node w.heap.size 0 op l r) := by
  have hb : Below w.heap.size w (w.alloc (.cells #[.string op, u, v] 29)) := (Below.refl _ _).alloc (Nat.le_refl _) _
  subst hu; subst hv
  exact ⟨by simp [go_sem], by simp [go_sem], by simp [go_sem], by simp, rep_below hb (Nat.le_refl _) _ hl, rep_below hb (Nat.le_refl _) _ hr⟩

theorem zz_and {w : World} {T1 T2 : BT ByteArray} {op : ByteArray} {u v : Value} (ho : isAnd op = true) (h1 : rep w T1) (h2 : rep w T2) (hu : val T1 = u) (hv : val T2 = v) (hl : (conj T1).length + (conj T2).length ≤ 8192) :
    Calls Try.prog 7 #[.iface 25 (.pointer (some ⟨w.heap.size, 0, none⟩))] (w.alloc (.cells #[.string op, u, v] 29)) (Gives (w.alloc (.cells #[.string op, u, v] 29)) (conj T1 ++ conj T2)) := by
  have z := zz_any (.node w.heap.size 0 op T1 T2) _ (rep_new' (op := op) h1 h2 u v hu hv) (by rw [conj, if_pos ho, List.length_append]; omega)
  rw [conj, if_pos ho] at z
  exact z
theorem zz_one {w : World} {T1 T2 : BT ByteArray} {op : ByteArray} {u v : Value} (ho : isAnd op = false) (h1 : rep w T1) (h2 : rep w T2) (hu : val T1 = u) (hv : val T2 = v) :
    Calls Try.prog 7 #[.iface 25 (.pointer (some ⟨w.heap.size, 0, none⟩))] (w.alloc (.cells #[.string op, u, v] 29)) (Gives (w.alloc (.cells #[.string op, u, v] 29)) [.iface 25 (.pointer (some ⟨w.heap.size, 0, none⟩))]) := by
  have z := zz_any (.node w.heap.size 0 op T1 T2) _ (rep_new' (op := op) h1 h2 u v hu hv) (by rw [conj, if_neg (by simp [ho])]; simp)
  rw [conj, if_neg (by simp [ho])] at z
  exact z

set_option maxRecDepth 100000 in
set_option maxHeartbeats 8000000 in
theorem split_law (op : ByteArray) (T U : BT ByteArray) (w : World) (hT : tin w T) (hU : tin w U) (_hop : op.size ≤ maxLen) :
    Calls Try.prog 4 #[.string op, T.ptr, U.ptr] w fun e w' => e = .returned (.bool true) ∧ Below w.heap.size w w' := by
  have HT : Hid (tin w T) := hT
  have HU : Hid (tin w U) := hU
  clear hT hU
  unfold maxLen at _hop
  by_cases ho : (1048576 : Int) < (op.size : Int)
  · go_enter Try.func4, Try.ntmps4
    go_wp2_with fail
    go_ret
    exact ⟨rfl, Below.refl _ _⟩
  go_enter Try.func4, Try.ntmps4
  go_wp2_with fail
  refine (fits_any T 0 _ _ (by omega) HT.out).mono ?_
  rintro e w1 ⟨N1, B1, ok1, rfl, hk1, hb1⟩
  cases ok1 with
  | false =>
    have HB : Hid (Below w.heap.size w w1) := hb1
    clear hb1 hk1
    go_wp2_with fail
    go_ret
    exact ⟨rfl, HB.out⟩
  | true =>
  obtain ⟨hN1, hN1'⟩ := hk1 rfl
  have HN1 : Hid (N1 = 0 + sz T) := hN1
  replace HU : Hid (tin w1 U) := tin_below hb1 (Nat.le_refl _) _ HU.out
  replace HT : Hid (tin w1 T) := tin_below hb1 (Nat.le_refl _) _ HT.out
  have B1' : Below w.heap.size w w1 := hb1
  clear hk1 hN1 hb1
  go_wp2_with fail
  refine (fits_any U N1 _ _ hN1' HU.out).mono ?_
  rintro e w2 ⟨N2, B2, ok2, rfl, hk2, hb2⟩
  have B2' : Below w.heap.size w w2 := B1'.trans (hb2.mono B1'.size)
  clear B1'
  cases ok2 with
  | false =>
    clear hb2 hk2
    go_wp2_with fail
    go_ret
    exact ⟨rfl, B2'⟩
  | true =>
  obtain ⟨hN2, hN2'⟩ := hk2 rfl
  have HS : Hid (sz T + sz U ≤ 4096) := by have := HN1.out; show sz T + sz U ≤ 4096; omega
  replace HU : Hid (tin w2 U) := tin_below hb2 (Nat.le_refl _) _ HU.out
  replace HT : Hid (tin w2 T) := tin_below hb2 (Nat.le_refl _) _ HT.out
  clear hk2 hN2 hb2 hN2' hN1' HN1
  go_wp2_with fail
  refine (build_any T _ HT.out).mono ?_
  rintro e w3 ⟨T1, rfl, r1, s1, hb3, _⟩
  have B3' : Below w.heap.size w w3 := B2'.trans (hb3.mono B2'.size)
  replace HU : Hid (tin w3 U) := tin_below hb3 (Nat.le_refl _) _ HU.out
  have R1 : Hid (rep w3 T1) := r1
  have S1 : Hid (sz T1 = sz T) := s1
  clear r1 s1 hb3 B2' HT
  go_wp2_with fail
  refine (build_any U _ HU.out).mono ?_
  rintro e w4 ⟨T2, rfl, r2, s2, hb4, _⟩
  have B4' : Below w.heap.size w w4 := B3'.trans (hb4.mono B3'.size)
  have R2 : Hid (rep w4 T2) := r2
  replace R1 : Hid (rep w4 T1) := rep_below hb4 (Nat.le_refl _) _ R1.out
  have HL : Hid ((conj T1).length + (conj T2).length ≤ 4098) := by have h1 := conj_sz T1; have h2 := conj_sz T2; have h3 := S1.out; have h4 := HS.out; show _ ≤ _; omega
  clear r2 s2 hb4 B3' HU S1 HS
  go_wp2_with fail
  refine (of_any T1 _ R1.out (by have := HL.out; omega)).mono ?_
  rintro e w5 ⟨g1, cap1, rfl, own1, hb5, lo1, hi1⟩
  have B5' : Below w.heap.size w w5 := B4'.trans (hb5.mono B4'.size)
  replace R1 : Hid (rep w5 T1) := rep_below hb5 (Nat.le_refl _) _ R1.out
  replace R2 : Hid (rep w5 T2) := rep_below hb5 (Nat.le_refl _) _ R2.out
  have W1 : Hid (Row w5 g1 (conj T1)) := row_of_own own1 hi1
  clear own1 hb5 lo1 hi1 B4'
  go_wp2_with fail
  refine (of_any T2 _ R2.out (by have := HL.out; omega)).mono ?_
  rintro e w6 ⟨g2, cap2, rfl, own2, hb6, lo2, hi2⟩
  have B6' : Below w.heap.size w w6 := B5'.trans (hb6.mono B5'.size)
  replace R1 : Hid (rep w6 T1) := rep_below hb6 (Nat.le_refl _) _ R1.out
  replace R2 : Hid (rep w6 T2) := rep_below hb6 (Nat.le_refl _) _ R2.out
  replace W1 : Hid (Row w6 g1 (conj T1)) := row_below hb6 W1.out
  have W2 : Hid (Row w6 g2 (conj T2)) := row_of_own own2 hi2
  clear own2 hb6 lo2 hi2 B5'
  have E1 : Hid (∀ u ∈ conj T1, isE u) := conj_isE T1
  have E2 : Hid (∀ u ∈ conj T2, isE u) := conj_isE T2
  have c1 := conj_pos T1
  have c2 := conj_pos T2
  obtain ⟨n1, en1⟩ : ∃ n, n = (conj T1).length := ⟨_, rfl⟩
  obtain ⟨n2, en2⟩ : ∃ n, n = (conj T2).length := ⟨_, rfl⟩
  rw [← en1] at c1 ⊢
  rw [← en2] at c2 ⊢
  have hl8 : n1 + n2 ≤ 4098 := by rw [en1, en2]; exact HL.out
  have EN1 : Hid (n1 = (conj T1).length) := en1
  have EN2 : Hid (n2 = (conj T2).length) := en2
  clear HL en1 en2
  by_cases hA : isAnd op = true
  · have HA : Hid (isAnd op = true) := hA
    clear hA
    rcases ptr_val T1 with ⟨p1, u1⟩ | ⟨a1, p1, u1⟩
    · rcases ptr_val T2 with ⟨p2, u2⟩ | ⟨a2, p2, u2⟩
      · have PV1 : Hid (val T1 = .nilIface) := u1
        have PV2 : Hid (val T2 = .nilIface) := u2
        simp only [p1, p2]
        clear p1 p2 u1 u2
        go_wp2_with fail
        refine (zz_and (T1 := T1) (T2 := T2) isAnd_AND R1.out R2.out PV1.out PV2.out (by have h1 := EN1.out; have h2 := EN2.out; omega)).mono ?_
        rintro e w7 ⟨g7, cap7, rfl, own7, hb7, lo7, hi7⟩
        have B7' : Below w.heap.size w w7 := (B6'.alloc B6'.size _).trans (hb7.mono (B6'.alloc B6'.size _).size)
        have hb67 := (below_new w6 _).trans (hb7.mono (by simp))
        replace R1 : Hid (rep w7 T1) := rep_below hb67 (Nat.le_refl _) _ R1.out
        replace R2 : Hid (rep w7 T2) := rep_below hb67 (Nat.le_refl _) _ R2.out
        replace W1 : Hid (Row w7 g1 (conj T1)) := row_below hb67 W1.out
        replace W2 : Hid (Row w7 g2 (conj T2)) := row_below hb67 W2.out
        have W7 : Hid (Row w7 g7 (conj T1 ++ conj T2)) := row_of_own own7 hi7
        have en7 : (conj T1 ++ conj T2).length = n1 + n2 := by rw [List.length_append, ← EN1.out, ← EN2.out]
        clear own7 hb7 lo7 hi7 B6' hb67
        rw [en7]
        clear en7
        go_wp2_with fail
        refine (concat_any g7 (n1 + n2) cap7 g1 n1 cap1 g2 n2 cap2 (conj T1) (conj T2) _ E1.out E2.out EN1.out.symm EN2.out.symm rfl (by omega) (by omega) W7.out W1.out W2.out).mono ?_
        rintro e w8 ⟨rfl, hb8⟩
        have B8' : Below w.heap.size w w8 := B7'.trans (hb8.mono B7'.size)
        replace R1 : Hid (rep w8 T1) := rep_below hb8 (Nat.le_refl _) _ R1.out
        replace R2 : Hid (rep w8 T2) := rep_below hb8 (Nat.le_refl _) _ R2.out
        replace W1 : Hid (Row w8 g1 (conj T1)) := row_below hb8 W1.out
        replace W2 : Hid (Row w8 g2 (conj T2)) := row_below hb8 W2.out
        clear hb8 B7' W7
        go_wp2_with fail
        refine (zz_and (T1 := T1) (T2 := T2) HA.out R1.out R2.out PV1.out PV2.out (by have h1 := EN1.out; have h2 := EN2.out; omega)).mono ?_
        rintro e w9 ⟨g9, cap9, rfl, own9, hb9, lo9, hi9⟩
        have B9' : Below w.heap.size w w9 := (B8'.alloc B8'.size _).trans (hb9.mono (B8'.alloc B8'.size _).size)
        have hb89 := (below_new w8 _).trans (hb9.mono (by simp))
        replace R1 : Hid (rep w9 T1) := rep_below hb89 (Nat.le_refl _) _ R1.out
        replace R2 : Hid (rep w9 T2) := rep_below hb89 (Nat.le_refl _) _ R2.out
        replace W1 : Hid (Row w9 g1 (conj T1)) := row_below hb89 W1.out
        replace W2 : Hid (Row w9 g2 (conj T2)) := row_below hb89 W2.out
        have W9 : Hid (Row w9 g9 (conj T1 ++ conj T2)) := row_of_own own9 hi9
        have en9 : (conj T1 ++ conj T2).length = n1 + n2 := by rw [List.length_append, ← EN1.out, ← EN2.out]
        clear own9 hb9 lo9 hi9 B8' hb89
        rw [en9]
        clear en9
        have hand : (op.toList == [65, 78, 68]) = true := HA.out
        go_wp2_with fail
        refine (concat_any g9 (n1 + n2) cap9 g1 n1 cap1 g2 n2 cap2 (conj T1) (conj T2) _ E1.out E2.out EN1.out.symm EN2.out.symm rfl (by omega) (by omega) W9.out W1.out W2.out).mono ?_
        rintro e w10 ⟨rfl, hb10⟩
        have B10' : Below w.heap.size w w10 := B9'.trans (hb10.mono B9'.size)
        replace R1 : Hid (rep w10 T1) := rep_below hb10 (Nat.le_refl _) _ R1.out
        replace R2 : Hid (rep w10 T2) := rep_below hb10 (Nat.le_refl _) _ R2.out
        replace W1 : Hid (Row w10 g1 (conj T1)) := row_below hb10 W1.out
        replace W2 : Hid (Row w10 g2 (conj T2)) := row_below hb10 W2.out
        clear hb10 B9' W9
        go_wp2_with fail
        go_loopw [17] (fun i w' => ∃ k : Nat, k ≤ n1 ∧ i = .int .i64 k ∧ Below w10.heap.size w10 w') (fun i _ => n1 - (intOf i).toNat)
        case atStart => exact ⟨0, Nat.zero_le _, rfl, Below.refl _ _⟩
        case round =>
          obtain ⟨k, hk, rfl, hb⟩ := hrel
          have HB : Hid (Below w10.heap.size w10 wr) := hb
          clear hb
          by_cases hlt : k < n1
          · obtain ⟨u, hu⟩ : ∃ u, (conj T1)[k]? = some u := ⟨(conj T1)[k]'(by have := EN1.out; omega), by simp⟩
            have F : Hid (Calls Try.prog 15 #[.slice (some ⟨g1, 0, none⟩) n1 cap1, .int .i64 k] wr fun e w' => e = .returned (.bool true) ∧ Below wr.heap.size wr w') :=
              fixed_any T1 g1 n1 cap1 k u wr hlt (row_below HB.out W1.out) hu (rep_below HB.out (Nat.le_refl _) _ R1.out)
            clear hu
            go_wp2_with fail
            refine F.out.mono ?_
            clear F
            rintro e wn ⟨rfl, hbn⟩
            have HBN : Hid (Below w10.heap.size w10 wn) := HB.out.trans (hbn.mono HB.out.size)
            clear hbn
            go_wp2_with fail
            exact ⟨⟨k + 1, by omega, by go_num, HBN.out⟩, by simp [intOf]; omega⟩
          · go_wp2_with fail
            go_loopw [18] (fun i w' => ∃ k : Nat, k ≤ n2 ∧ i = .int .i64 k ∧ Below w10.heap.size w10 w') (fun i _ => n2 - (intOf i).toNat)
            case atStart => exact ⟨0, Nat.zero_le _, rfl, HB.out⟩
            case round =>
              obtain ⟨j, hj, rfl, hb⟩ := hrel
              have HB2 : Hid (Below w10.heap.size w10 wr) := hb
              clear hb
              by_cases hlt2 : j < n2
              · obtain ⟨u, hu⟩ : ∃ u, (conj T2)[j]? = some u := ⟨(conj T2)[j]'(by have := EN2.out; omega), by simp⟩
                have F : Hid (Calls Try.prog 15 #[.slice (some ⟨g2, 0, none⟩) n2 cap2, .int .i64 j] wr fun e w' => e = .returned (.bool true) ∧ Below wr.heap.size wr w') :=
                  fixed_any T2 g2 n2 cap2 j u wr hlt2 (row_below HB2.out W2.out) hu (rep_below HB2.out (Nat.le_refl _) _ R2.out)
                clear hu
                go_wp2_with fail
                refine F.out.mono ?_
                clear F
                rintro e wn ⟨rfl, hbn⟩
                have HBN : Hid (Below w10.heap.size w10 wn) := HB2.out.trans (hbn.mono HB2.out.size)
                clear hbn
                go_wp2_with fail
                exact ⟨⟨j + 1, by omega, by go_num, HBN.out⟩, by simp [intOf]; omega⟩
              · go_wp2_with fail
                go_ret
                exact ⟨rfl, B10'.trans (HB2.out.mono B10'.size)⟩
      · have PV1 : Hid (val T1 = .nilIface) := u1
        have PV2 : Hid (val T2 = .iface 25 (.pointer (some a2))) := u2
        simp only [p1, p2]
        clear p1 p2 u1 u2
        go_wp2_with fail
        refine (zz_and (T1 := T1) (T2 := T2) isAnd_AND R1.out R2.out PV1.out PV2.out (by have h1 := EN1.out; have h2 := EN2.out; omega)).mono ?_
        rintro e w7 ⟨g7, cap7, rfl, own7, hb7, lo7, hi7⟩
        have B7' : Below w.heap.size w w7 := (B6'.alloc B6'.size _).trans (hb7.mono (B6'.alloc B6'.size _).size)
        have hb67 := (below_new w6 _).trans (hb7.mono (by simp))
        replace R1 : Hid (rep w7 T1) := rep_below hb67 (Nat.le_refl _) _ R1.out
        replace R2 : Hid (rep w7 T2) := rep_below hb67 (Nat.le_refl _) _ R2.out
        replace W1 : Hid (Row w7 g1 (conj T1)) := row_below hb67 W1.out
        replace W2 : Hid (Row w7 g2 (conj T2)) := row_below hb67 W2.out
        have W7 : Hid (Row w7 g7 (conj T1 ++ conj T2)) := row_of_own own7 hi7
        have en7 : (conj T1 ++ conj T2).length = n1 + n2 := by rw [List.length_append, ← EN1.out, ← EN2.out]
        clear own7 hb7 lo7 hi7 B6' hb67
        rw [en7]
        clear en7
        go_wp2_with fail
        refine (concat_any g7 (n1 + n2) cap7 g1 n1 cap1 g2 n2 cap2 (conj T1) (conj T2) _ E1.out E2.out EN1.out.symm EN2.out.symm rfl (by omega) (by omega) W7.out W1.out W2.out).mono ?_
        rintro e w8 ⟨rfl, hb8⟩
        have B8' : Below w.heap.size w w8 := B7'.trans (hb8.mono B7'.size)
        replace R1 : Hid (rep w8 T1) := rep_below hb8 (Nat.le_refl _) _ R1.out
        replace R2 : Hid (rep w8 T2) := rep_below hb8 (Nat.le_refl _) _ R2.out
        replace W1 : Hid (Row w8 g1 (conj T1)) := row_below hb8 W1.out
        replace W2 : Hid (Row w8 g2 (conj T2)) := row_below hb8 W2.out
        clear hb8 B7' W7
        go_wp2_with fail
        refine (zz_and (T1 := T1) (T2 := T2) HA.out R1.out R2.out PV1.out PV2.out (by have h1 := EN1.out; have h2 := EN2.out; omega)).mono ?_
        rintro e w9 ⟨g9, cap9, rfl, own9, hb9, lo9, hi9⟩
        have B9' : Below w.heap.size w w9 := (B8'.alloc B8'.size _).trans (hb9.mono (B8'.alloc B8'.size _).size)
        have hb89 := (below_new w8 _).trans (hb9.mono (by simp))
        replace R1 : Hid (rep w9 T1) := rep_below hb89 (Nat.le_refl _) _ R1.out
        replace R2 : Hid (rep w9 T2) := rep_below hb89 (Nat.le_refl _) _ R2.out
        replace W1 : Hid (Row w9 g1 (conj T1)) := row_below hb89 W1.out
        replace W2 : Hid (Row w9 g2 (conj T2)) := row_below hb89 W2.out
        have W9 : Hid (Row w9 g9 (conj T1 ++ conj T2)) := row_of_own own9 hi9
        have en9 : (conj T1 ++ conj T2).length = n1 + n2 := by rw [List.length_append, ← EN1.out, ← EN2.out]
        clear own9 hb9 lo9 hi9 B8' hb89
        rw [en9]
        clear en9
        have hand : (op.toList == [65, 78, 68]) = true := HA.out
        go_wp2_with fail
        refine (concat_any g9 (n1 + n2) cap9 g1 n1 cap1 g2 n2 cap2 (conj T1) (conj T2) _ E1.out E2.out EN1.out.symm EN2.out.symm rfl (by omega) (by omega) W9.out W1.out W2.out).mono ?_
        rintro e w10 ⟨rfl, hb10⟩
        have B10' : Below w.heap.size w w10 := B9'.trans (hb10.mono B9'.size)
        replace R1 : Hid (rep w10 T1) := rep_below hb10 (Nat.le_refl _) _ R1.out
        replace R2 : Hid (rep w10 T2) := rep_below hb10 (Nat.le_refl _) _ R2.out
        replace W1 : Hid (Row w10 g1 (conj T1)) := row_below hb10 W1.out
        replace W2 : Hid (Row w10 g2 (conj T2)) := row_below hb10 W2.out
        clear hb10 B9' W9
        go_wp2_with fail
        go_loopw [17] (fun i w' => ∃ k : Nat, k ≤ n1 ∧ i = .int .i64 k ∧ Below w10.heap.size w10 w') (fun i _ => n1 - (intOf i).toNat)
        case atStart => exact ⟨0, Nat.zero_le _, rfl, Below.refl _ _⟩
        case round =>
          obtain ⟨k, hk, rfl, hb⟩ := hrel
          have HB : Hid (Below w10.heap.size w10 wr) := hb
          clear hb
          by_cases hlt : k < n1
          · obtain ⟨u, hu⟩ : ∃ u, (conj T1)[k]? = some u := ⟨(conj T1)[k]'(by have := EN1.out; omega), by simp⟩
            have F : Hid (Calls Try.prog 15 #[.slice (some ⟨g1, 0, none⟩) n1 cap1, .int .i64 k] wr fun e w' => e = .returned (.bool true) ∧ Below wr.heap.size wr w') :=
              fixed_any T1 g1 n1 cap1 k u wr hlt (row_below HB.out W1.out) hu (rep_below HB.out (Nat.le_refl _) _ R1.out)
            clear hu
            go_wp2_with fail
            refine F.out.mono ?_
            clear F
            rintro e wn ⟨rfl, hbn⟩
            have HBN : Hid (Below w10.heap.size w10 wn) := HB.out.trans (hbn.mono HB.out.size)
            clear hbn
            go_wp2_with fail
            exact ⟨⟨k + 1, by omega, by go_num, HBN.out⟩, by simp [intOf]; omega⟩
          · go_wp2_with fail
            go_loopw [18] (fun i w' => ∃ k : Nat, k ≤ n2 ∧ i = .int .i64 k ∧ Below w10.heap.size w10 w') (fun i _ => n2 - (intOf i).toNat)
            case atStart => exact ⟨0, Nat.zero_le _, rfl, HB.out⟩
            case round =>
              obtain ⟨j, hj, rfl, hb⟩ := hrel
              have HB2 : Hid (Below w10.heap.size w10 wr) := hb
              clear hb
              by_cases hlt2 : j < n2
              · obtain ⟨u, hu⟩ : ∃ u, (conj T2)[j]? = some u := ⟨(conj T2)[j]'(by have := EN2.out; omega), by simp⟩
                have F : Hid (Calls Try.prog 15 #[.slice (some ⟨g2, 0, none⟩) n2 cap2, .int .i64 j] wr fun e w' => e = .returned (.bool true) ∧ Below wr.heap.size wr w') :=
                  fixed_any T2 g2 n2 cap2 j u wr hlt2 (row_below HB2.out W2.out) hu (rep_below HB2.out (Nat.le_refl _) _ R2.out)
                clear hu
                go_wp2_with fail
                refine F.out.mono ?_
                clear F
                rintro e wn ⟨rfl, hbn⟩
                have HBN : Hid (Below w10.heap.size w10 wn) := HB2.out.trans (hbn.mono HB2.out.size)
                clear hbn
                go_wp2_with fail
                exact ⟨⟨j + 1, by omega, by go_num, HBN.out⟩, by simp [intOf]; omega⟩
              · go_wp2_with fail
                go_ret
                exact ⟨rfl, B10'.trans (HB2.out.mono B10'.size)⟩
    · rcases ptr_val T2 with ⟨p2, u2⟩ | ⟨a2, p2, u2⟩
      · have PV1 : Hid (val T1 = .iface 25 (.pointer (some a1))) := u1
        have PV2 : Hid (val T2 = .nilIface) := u2
        simp only [p1, p2]
        clear p1 p2 u1 u2
        go_wp2_with fail
        refine (zz_and (T1 := T1) (T2 := T2) isAnd_AND R1.out R2.out PV1.out PV2.out (by have h1 := EN1.out; have h2 := EN2.out; omega)).mono ?_
        rintro e w7 ⟨g7, cap7, rfl, own7, hb7, lo7, hi7⟩
        have B7' : Below w.heap.size w w7 := (B6'.alloc B6'.size _).trans (hb7.mono (B6'.alloc B6'.size _).size)
        have hb67 := (below_new w6 _).trans (hb7.mono (by simp))
        replace R1 : Hid (rep w7 T1) := rep_below hb67 (Nat.le_refl _) _ R1.out
        replace R2 : Hid (rep w7 T2) := rep_below hb67 (Nat.le_refl _) _ R2.out
        replace W1 : Hid (Row w7 g1 (conj T1)) := row_below hb67 W1.out
        replace W2 : Hid (Row w7 g2 (conj T2)) := row_below hb67 W2.out
        have W7 : Hid (Row w7 g7 (conj T1 ++ conj T2)) := row_of_own own7 hi7
        have en7 : (conj T1 ++ conj T2).length = n1 + n2 := by rw [List.length_append, ← EN1.out, ← EN2.out]
        clear own7 hb7 lo7 hi7 B6' hb67
        rw [en7]
        clear en7
        go_wp2_with fail
        refine (concat_any g7 (n1 + n2) cap7 g1 n1 cap1 g2 n2 cap2 (conj T1) (conj T2) _ E1.out E2.out EN1.out.symm EN2.out.symm rfl (by omega) (by omega) W7.out W1.out W2.out).mono ?_
        rintro e w8 ⟨rfl, hb8⟩
        have B8' : Below w.heap.size w w8 := B7'.trans (hb8.mono B7'.size)
        replace R1 : Hid (rep w8 T1) := rep_below hb8 (Nat.le_refl _) _ R1.out
        replace R2 : Hid (rep w8 T2) := rep_below hb8 (Nat.le_refl _) _ R2.out
        replace W1 : Hid (Row w8 g1 (conj T1)) := row_below hb8 W1.out
        replace W2 : Hid (Row w8 g2 (conj T2)) := row_below hb8 W2.out
        clear hb8 B7' W7
        go_wp2_with fail
        refine (zz_and (T1 := T1) (T2 := T2) HA.out R1.out R2.out PV1.out PV2.out (by have h1 := EN1.out; have h2 := EN2.out; omega)).mono ?_
        rintro e w9 ⟨g9, cap9, rfl, own9, hb9, lo9, hi9⟩
        have B9' : Below w.heap.size w w9 := (B8'.alloc B8'.size _).trans (hb9.mono (B8'.alloc B8'.size _).size)
        have hb89 := (below_new w8 _).trans (hb9.mono (by simp))
        replace R1 : Hid (rep w9 T1) := rep_below hb89 (Nat.le_refl _) _ R1.out
        replace R2 : Hid (rep w9 T2) := rep_below hb89 (Nat.le_refl _) _ R2.out
        replace W1 : Hid (Row w9 g1 (conj T1)) := row_below hb89 W1.out
        replace W2 : Hid (Row w9 g2 (conj T2)) := row_below hb89 W2.out
        have W9 : Hid (Row w9 g9 (conj T1 ++ conj T2)) := row_of_own own9 hi9
        have en9 : (conj T1 ++ conj T2).length = n1 + n2 := by rw [List.length_append, ← EN1.out, ← EN2.out]
        clear own9 hb9 lo9 hi9 B8' hb89
        rw [en9]
        clear en9
        have hand : (op.toList == [65, 78, 68]) = true := HA.out
        go_wp2_with fail
        refine (concat_any g9 (n1 + n2) cap9 g1 n1 cap1 g2 n2 cap2 (conj T1) (conj T2) _ E1.out E2.out EN1.out.symm EN2.out.symm rfl (by omega) (by omega) W9.out W1.out W2.out).mono ?_
        rintro e w10 ⟨rfl, hb10⟩
        have B10' : Below w.heap.size w w10 := B9'.trans (hb10.mono B9'.size)
        replace R1 : Hid (rep w10 T1) := rep_below hb10 (Nat.le_refl _) _ R1.out
        replace R2 : Hid (rep w10 T2) := rep_below hb10 (Nat.le_refl _) _ R2.out
        replace W1 : Hid (Row w10 g1 (conj T1)) := row_below hb10 W1.out
        replace W2 : Hid (Row w10 g2 (conj T2)) := row_below hb10 W2.out
        clear hb10 B9' W9
        go_wp2_with fail
        go_loopw [17] (fun i w' => ∃ k : Nat, k ≤ n1 ∧ i = .int .i64 k ∧ Below w10.heap.size w10 w') (fun i _ => n1 - (intOf i).toNat)
        case atStart => exact ⟨0, Nat.zero_le _, rfl, Below.refl _ _⟩
        case round =>
          obtain ⟨k, hk, rfl, hb⟩ := hrel
          have HB : Hid (Below w10.heap.size w10 wr) := hb
          clear hb
          by_cases hlt : k < n1
          · obtain ⟨u, hu⟩ : ∃ u, (conj T1)[k]? = some u := ⟨(conj T1)[k]'(by have := EN1.out; omega), by simp⟩
            have F : Hid (Calls Try.prog 15 #[.slice (some ⟨g1, 0, none⟩) n1 cap1, .int .i64 k] wr fun e w' => e = .returned (.bool true) ∧ Below wr.heap.size wr w') :=
              fixed_any T1 g1 n1 cap1 k u wr hlt (row_below HB.out W1.out) hu (rep_below HB.out (Nat.le_refl _) _ R1.out)
            clear hu
            go_wp2_with fail
            refine F.out.mono ?_
            clear F
            rintro e wn ⟨rfl, hbn⟩
            have HBN : Hid (Below w10.heap.size w10 wn) := HB.out.trans (hbn.mono HB.out.size)
            clear hbn
            go_wp2_with fail
            exact ⟨⟨k + 1, by omega, by go_num, HBN.out⟩, by simp [intOf]; omega⟩
          · go_wp2_with fail
            go_loopw [18] (fun i w' => ∃ k : Nat, k ≤ n2 ∧ i = .int .i64 k ∧ Below w10.heap.size w10 w') (fun i _ => n2 - (intOf i).toNat)
            case atStart => exact ⟨0, Nat.zero_le _, rfl, HB.out⟩
            case round =>
              obtain ⟨j, hj, rfl, hb⟩ := hrel
              have HB2 : Hid (Below w10.heap.size w10 wr) := hb
              clear hb
              by_cases hlt2 : j < n2
              · obtain ⟨u, hu⟩ : ∃ u, (conj T2)[j]? = some u := ⟨(conj T2)[j]'(by have := EN2.out; omega), by simp⟩
                have F : Hid (Calls Try.prog 15 #[.slice (some ⟨g2, 0, none⟩) n2 cap2, .int .i64 j] wr fun e w' => e = .returned (.bool true) ∧ Below wr.heap.size wr w') :=
                  fixed_any T2 g2 n2 cap2 j u wr hlt2 (row_below HB2.out W2.out) hu (rep_below HB2.out (Nat.le_refl _) _ R2.out)
                clear hu
                go_wp2_with fail
                refine F.out.mono ?_
                clear F
                rintro e wn ⟨rfl, hbn⟩
                have HBN : Hid (Below w10.heap.size w10 wn) := HB2.out.trans (hbn.mono HB2.out.size)
                clear hbn
                go_wp2_with fail
                exact ⟨⟨j + 1, by omega, by go_num, HBN.out⟩, by simp [intOf]; omega⟩
              · go_wp2_with fail
                go_ret
                exact ⟨rfl, B10'.trans (HB2.out.mono B10'.size)⟩
      · have PV1 : Hid (val T1 = .iface 25 (.pointer (some a1))) := u1
        have PV2 : Hid (val T2 = .iface 25 (.pointer (some a2))) := u2
        simp only [p1, p2]
        clear p1 p2 u1 u2
        go_wp2_with fail
        refine (zz_and (T1 := T1) (T2 := T2) isAnd_AND R1.out R2.out PV1.out PV2.out (by have h1 := EN1.out; have h2 := EN2.out; omega)).mono ?_
        rintro e w7 ⟨g7, cap7, rfl, own7, hb7, lo7, hi7⟩
        have B7' : Below w.heap.size w w7 := (B6'.alloc B6'.size _).trans (hb7.mono (B6'.alloc B6'.size _).size)
        have hb67 := (below_new w6 _).trans (hb7.mono (by simp))
        replace R1 : Hid (rep w7 T1) := rep_below hb67 (Nat.le_refl _) _ R1.out
        replace R2 : Hid (rep w7 T2) := rep_below hb67 (Nat.le_refl _) _ R2.out
        replace W1 : Hid (Row w7 g1 (conj T1)) := row_below hb67 W1.out
        replace W2 : Hid (Row w7 g2 (conj T2)) := row_below hb67 W2.out
        have W7 : Hid (Row w7 g7 (conj T1 ++ conj T2)) := row_of_own own7 hi7
        have en7 : (conj T1 ++ conj T2).length = n1 + n2 := by rw [List.length_append, ← EN1.out, ← EN2.out]
        clear own7 hb7 lo7 hi7 B6' hb67
        rw [en7]
        clear en7
        go_wp2_with fail
        refine (concat_any g7 (n1 + n2) cap7 g1 n1 cap1 g2 n2 cap2 (conj T1) (conj T2) _ E1.out E2.out EN1.out.symm EN2.out.symm rfl (by omega) (by omega) W7.out W1.out W2.out).mono ?_
        rintro e w8 ⟨rfl, hb8⟩
        have B8' : Below w.heap.size w w8 := B7'.trans (hb8.mono B7'.size)
        replace R1 : Hid (rep w8 T1) := rep_below hb8 (Nat.le_refl _) _ R1.out
        replace R2 : Hid (rep w8 T2) := rep_below hb8 (Nat.le_refl _) _ R2.out
        replace W1 : Hid (Row w8 g1 (conj T1)) := row_below hb8 W1.out
        replace W2 : Hid (Row w8 g2 (conj T2)) := row_below hb8 W2.out
        clear hb8 B7' W7
        go_wp2_with fail
        refine (zz_and (T1 := T1) (T2 := T2) HA.out R1.out R2.out PV1.out PV2.out (by have h1 := EN1.out; have h2 := EN2.out; omega)).mono ?_
        rintro e w9 ⟨g9, cap9, rfl, own9, hb9, lo9, hi9⟩
        have B9' : Below w.heap.size w w9 := (B8'.alloc B8'.size _).trans (hb9.mono (B8'.alloc B8'.size _).size)
        have hb89 := (below_new w8 _).trans (hb9.mono (by simp))
        replace R1 : Hid (rep w9 T1) := rep_below hb89 (Nat.le_refl _) _ R1.out
        replace R2 : Hid (rep w9 T2) := rep_below hb89 (Nat.le_refl _) _ R2.out
        replace W1 : Hid (Row w9 g1 (conj T1)) := row_below hb89 W1.out
        replace W2 : Hid (Row w9 g2 (conj T2)) := row_below hb89 W2.out
        have W9 : Hid (Row w9 g9 (conj T1 ++ conj T2)) := row_of_own own9 hi9
        have en9 : (conj T1 ++ conj T2).length = n1 + n2 := by rw [List.length_append, ← EN1.out, ← EN2.out]
        clear own9 hb9 lo9 hi9 B8' hb89
        rw [en9]
        clear en9
        have hand : (op.toList == [65, 78, 68]) = true := HA.out
        go_wp2_with fail
        refine (concat_any g9 (n1 + n2) cap9 g1 n1 cap1 g2 n2 cap2 (conj T1) (conj T2) _ E1.out E2.out EN1.out.symm EN2.out.symm rfl (by omega) (by omega) W9.out W1.out W2.out).mono ?_
        rintro e w10 ⟨rfl, hb10⟩
        have B10' : Below w.heap.size w w10 := B9'.trans (hb10.mono B9'.size)
        replace R1 : Hid (rep w10 T1) := rep_below hb10 (Nat.le_refl _) _ R1.out
        replace R2 : Hid (rep w10 T2) := rep_below hb10 (Nat.le_refl _) _ R2.out
        replace W1 : Hid (Row w10 g1 (conj T1)) := row_below hb10 W1.out
        replace W2 : Hid (Row w10 g2 (conj T2)) := row_below hb10 W2.out
        clear hb10 B9' W9
        go_wp2_with fail
        go_loopw [17] (fun i w' => ∃ k : Nat, k ≤ n1 ∧ i = .int .i64 k ∧ Below w10.heap.size w10 w') (fun i _ => n1 - (intOf i).toNat)
        case atStart => exact ⟨0, Nat.zero_le _, rfl, Below.refl _ _⟩
        case round =>
          obtain ⟨k, hk, rfl, hb⟩ := hrel
          have HB : Hid (Below w10.heap.size w10 wr) := hb
          clear hb
          by_cases hlt : k < n1
          · obtain ⟨u, hu⟩ : ∃ u, (conj T1)[k]? = some u := ⟨(conj T1)[k]'(by have := EN1.out; omega), by simp⟩
            have F : Hid (Calls Try.prog 15 #[.slice (some ⟨g1, 0, none⟩) n1 cap1, .int .i64 k] wr fun e w' => e = .returned (.bool true) ∧ Below wr.heap.size wr w') :=
              fixed_any T1 g1 n1 cap1 k u wr hlt (row_below HB.out W1.out) hu (rep_below HB.out (Nat.le_refl _) _ R1.out)
            clear hu
            go_wp2_with fail
            refine F.out.mono ?_
            clear F
            rintro e wn ⟨rfl, hbn⟩
            have HBN : Hid (Below w10.heap.size w10 wn) := HB.out.trans (hbn.mono HB.out.size)
            clear hbn
            go_wp2_with fail
            exact ⟨⟨k + 1, by omega, by go_num, HBN.out⟩, by simp [intOf]; omega⟩
          · go_wp2_with fail
            go_loopw [18] (fun i w' => ∃ k : Nat, k ≤ n2 ∧ i = .int .i64 k ∧ Below w10.heap.size w10 w') (fun i _ => n2 - (intOf i).toNat)
            case atStart => exact ⟨0, Nat.zero_le _, rfl, HB.out⟩
            case round =>
              obtain ⟨j, hj, rfl, hb⟩ := hrel
              have HB2 : Hid (Below w10.heap.size w10 wr) := hb
              clear hb
              by_cases hlt2 : j < n2
              · obtain ⟨u, hu⟩ : ∃ u, (conj T2)[j]? = some u := ⟨(conj T2)[j]'(by have := EN2.out; omega), by simp⟩
                have F : Hid (Calls Try.prog 15 #[.slice (some ⟨g2, 0, none⟩) n2 cap2, .int .i64 j] wr fun e w' => e = .returned (.bool true) ∧ Below wr.heap.size wr w') :=
                  fixed_any T2 g2 n2 cap2 j u wr hlt2 (row_below HB2.out W2.out) hu (rep_below HB2.out (Nat.le_refl _) _ R2.out)
                clear hu
                go_wp2_with fail
                refine F.out.mono ?_
                clear F
                rintro e wn ⟨rfl, hbn⟩
                have HBN : Hid (Below w10.heap.size w10 wn) := HB2.out.trans (hbn.mono HB2.out.size)
                clear hbn
                go_wp2_with fail
                exact ⟨⟨j + 1, by omega, by go_num, HBN.out⟩, by simp [intOf]; omega⟩
              · go_wp2_with fail
                go_ret
                exact ⟨rfl, B10'.trans (HB2.out.mono B10'.size)⟩
  · have HA : Hid (isAnd op = false) := Bool.eq_false_iff.2 hA
    clear hA
    rcases ptr_val T1 with ⟨p1, u1⟩ | ⟨a1, p1, u1⟩
    · rcases ptr_val T2 with ⟨p2, u2⟩ | ⟨a2, p2, u2⟩
      · have PV1 : Hid (val T1 = .nilIface) := u1
        have PV2 : Hid (val T2 = .nilIface) := u2
        simp only [p1, p2]
        clear p1 p2 u1 u2
        go_wp2_with fail
        refine (zz_and (T1 := T1) (T2 := T2) isAnd_AND R1.out R2.out PV1.out PV2.out (by have h1 := EN1.out; have h2 := EN2.out; omega)).mono ?_
        rintro e w7 ⟨g7, cap7, rfl, own7, hb7, lo7, hi7⟩
        have B7' : Below w.heap.size w w7 := (B6'.alloc B6'.size _).trans (hb7.mono (B6'.alloc B6'.size _).size)
        have hb67 := (below_new w6 _).trans (hb7.mono (by simp))
        replace R1 : Hid (rep w7 T1) := rep_below hb67 (Nat.le_refl _) _ R1.out
        replace R2 : Hid (rep w7 T2) := rep_below hb67 (Nat.le_refl _) _ R2.out
        replace W1 : Hid (Row w7 g1 (conj T1)) := row_below hb67 W1.out
        replace W2 : Hid (Row w7 g2 (conj T2)) := row_below hb67 W2.out
        have W7 : Hid (Row w7 g7 (conj T1 ++ conj T2)) := row_of_own own7 hi7
        have en7 : (conj T1 ++ conj T2).length = n1 + n2 := by rw [List.length_append, ← EN1.out, ← EN2.out]
        clear own7 hb7 lo7 hi7 B6' hb67
        rw [en7]
        clear en7
        go_wp2_with fail
        refine (concat_any g7 (n1 + n2) cap7 g1 n1 cap1 g2 n2 cap2 (conj T1) (conj T2) _ E1.out E2.out EN1.out.symm EN2.out.symm rfl (by omega) (by omega) W7.out W1.out W2.out).mono ?_
        rintro e w8 ⟨rfl, hb8⟩
        have B8' : Below w.heap.size w w8 := B7'.trans (hb8.mono B7'.size)
        replace R1 : Hid (rep w8 T1) := rep_below hb8 (Nat.le_refl _) _ R1.out
        replace R2 : Hid (rep w8 T2) := rep_below hb8 (Nat.le_refl _) _ R2.out
        replace W1 : Hid (Row w8 g1 (conj T1)) := row_below hb8 W1.out
        replace W2 : Hid (Row w8 g2 (conj T2)) := row_below hb8 W2.out
        clear hb8 B7' W7
        go_wp2_with fail
        refine (zz_one (T1 := T1) (T2 := T2) HA.out R1.out R2.out PV1.out PV2.out).mono ?_
        rintro e w10 ⟨g9, cap9, rfl, own9, hb9, lo9, hi9⟩
        have B10' : Below w.heap.size w w10 := (B8'.alloc B8'.size _).trans (hb9.mono (B8'.alloc B8'.size _).size)
        have hb89 := (below_new w8 _).trans (hb9.mono (by simp))
        replace R1 : Hid (rep w10 T1) := rep_below hb89 (Nat.le_refl _) _ R1.out
        replace R2 : Hid (rep w10 T2) := rep_below hb89 (Nat.le_refl _) _ R2.out
        replace W1 : Hid (Row w10 g1 (conj T1)) := row_below hb89 W1.out
        replace W2 : Hid (Row w10 g2 (conj T2)) := row_below hb89 W2.out
        have W9 := (row_of_own own9 hi9).2 0 _ rfl
        clear own9 hb9 lo9 hi9 B8' hb89
        have hand : (op.toList == [65, 78, 68]) = false := HA.out
        have nsame := neq_same
        simp only [List.length_singleton]
        go_wp2_with (go_at_call 14; refine (asBin_ptr _ _).mono ?_; rintro e w' ⟨rfl, hw⟩; obtain rfl := hw.symm)
        go_loopw [17] (fun i w' => ∃ k : Nat, k ≤ n1 ∧ i = .int .i64 k ∧ Below w10.heap.size w10 w') (fun i _ => n1 - (intOf i).toNat)
        case atStart => exact ⟨0, Nat.zero_le _, rfl, Below.refl _ _⟩
        case round =>
          obtain ⟨k, hk, rfl, hb⟩ := hrel
          have HB : Hid (Below w10.heap.size w10 wr) := hb
          clear hb
          by_cases hlt : k < n1
          · obtain ⟨u, hu⟩ : ∃ u, (conj T1)[k]? = some u := ⟨(conj T1)[k]'(by have := EN1.out; omega), by simp⟩
            have F : Hid (Calls Try.prog 15 #[.slice (some ⟨g1, 0, none⟩) n1 cap1, .int .i64 k] wr fun e w' => e = .returned (.bool true) ∧ Below wr.heap.size wr w') :=
              fixed_any T1 g1 n1 cap1 k u wr hlt (row_below HB.out W1.out) hu (rep_below HB.out (Nat.le_refl _) _ R1.out)
            clear hu
            go_wp2_with fail
            refine F.out.mono ?_
            clear F
            rintro e wn ⟨rfl, hbn⟩
            have HBN : Hid (Below w10.heap.size w10 wn) := HB.out.trans (hbn.mono HB.out.size)
            clear hbn
            go_wp2_with fail
            exact ⟨⟨k + 1, by omega, by go_num, HBN.out⟩, by simp [intOf]; omega⟩
          · go_wp2_with fail
            go_loopw [18] (fun i w' => ∃ k : Nat, k ≤ n2 ∧ i = .int .i64 k ∧ Below w10.heap.size w10 w') (fun i _ => n2 - (intOf i).toNat)
            case atStart => exact ⟨0, Nat.zero_le _, rfl, HB.out⟩
            case round =>
              obtain ⟨j, hj, rfl, hb⟩ := hrel
              have HB2 : Hid (Below w10.heap.size w10 wr) := hb
              clear hb
              by_cases hlt2 : j < n2
              · obtain ⟨u, hu⟩ : ∃ u, (conj T2)[j]? = some u := ⟨(conj T2)[j]'(by have := EN2.out; omega), by simp⟩
                have F : Hid (Calls Try.prog 15 #[.slice (some ⟨g2, 0, none⟩) n2 cap2, .int .i64 j] wr fun e w' => e = .returned (.bool true) ∧ Below wr.heap.size wr w') :=
                  fixed_any T2 g2 n2 cap2 j u wr hlt2 (row_below HB2.out W2.out) hu (rep_below HB2.out (Nat.le_refl _) _ R2.out)
                clear hu
                go_wp2_with fail
                refine F.out.mono ?_
                clear F
                rintro e wn ⟨rfl, hbn⟩
                have HBN : Hid (Below w10.heap.size w10 wn) := HB2.out.trans (hbn.mono HB2.out.size)
                clear hbn
                go_wp2_with fail
                exact ⟨⟨j + 1, by omega, by go_num, HBN.out⟩, by simp [intOf]; omega⟩
              · go_wp2_with fail
                go_ret
                exact ⟨rfl, B10'.trans (HB2.out.mono B10'.size)⟩
      · have PV1 : Hid (val T1 = .nilIface) := u1
        have PV2 : Hid (val T2 = .iface 25 (.pointer (some a2))) := u2
        simp only [p1, p2]
        clear p1 p2 u1 u2
        go_wp2_with fail
        refine (zz_and (T1 := T1) (T2 := T2) isAnd_AND R1.out R2.out PV1.out PV2.out (by have h1 := EN1.out; have h2 := EN2.out; omega)).mono ?_
        rintro e w7 ⟨g7, cap7, rfl, own7, hb7, lo7, hi7⟩
        have B7' : Below w.heap.size w w7 := (B6'.alloc B6'.size _).trans (hb7.mono (B6'.alloc B6'.size _).size)
        have hb67 := (below_new w6 _).trans (hb7.mono (by simp))
        replace R1 : Hid (rep w7 T1) := rep_below hb67 (Nat.le_refl _) _ R1.out
        replace R2 : Hid (rep w7 T2) := rep_below hb67 (Nat.le_refl _) _ R2.out
        replace W1 : Hid (Row w7 g1 (conj T1)) := row_below hb67 W1.out
        replace W2 : Hid (Row w7 g2 (conj T2)) := row_below hb67 W2.out
        have W7 : Hid (Row w7 g7 (conj T1 ++ conj T2)) := row_of_own own7 hi7
        have en7 : (conj T1 ++ conj T2).length = n1 + n2 := by rw [List.length_append, ← EN1.out, ← EN2.out]
        clear own7 hb7 lo7 hi7 B6' hb67
        rw [en7]
        clear en7
        go_wp2_with fail
        refine (concat_any g7 (n1 + n2) cap7 g1 n1 cap1 g2 n2 cap2 (conj T1) (conj T2) _ E1.out E2.out EN1.out.symm EN2.out.symm rfl (by omega) (by omega) W7.out W1.out W2.out).mono ?_
        rintro e w8 ⟨rfl, hb8⟩
        have B8' : Below w.heap.size w w8 := B7'.trans (hb8.mono B7'.size)
        replace R1 : Hid (rep w8 T1) := rep_below hb8 (Nat.le_refl _) _ R1.out
        replace R2 : Hid (rep w8 T2) := rep_below hb8 (Nat.le_refl _) _ R2.out
        replace W1 : Hid (Row w8 g1 (conj T1)) := row_below hb8 W1.out
        replace W2 : Hid (Row w8 g2 (conj T2)) := row_below hb8 W2.out
        clear hb8 B7' W7
        go_wp2_with fail
        refine (zz_one (T1 := T1) (T2 := T2) HA.out R1.out R2.out PV1.out PV2.out).mono ?_
        rintro e w10 ⟨g9, cap9, rfl, own9, hb9, lo9, hi9⟩
        have B10' : Below w.heap.size w w10 := (B8'.alloc B8'.size _).trans (hb9.mono (B8'.alloc B8'.size _).size)
        have hb89 := (below_new w8 _).trans (hb9.mono (by simp))
        replace R1 : Hid (rep w10 T1) := rep_below hb89 (Nat.le_refl _) _ R1.out
        replace R2 : Hid (rep w10 T2) := rep_below hb89 (Nat.le_refl _) _ R2.out
        replace W1 : Hid (Row w10 g1 (conj T1)) := row_below hb89 W1.out
        replace W2 : Hid (Row w10 g2 (conj T2)) := row_below hb89 W2.out
        have W9 := (row_of_own own9 hi9).2 0 _ rfl
        clear own9 hb9 lo9 hi9 B8' hb89
        have hand : (op.toList == [65, 78, 68]) = false := HA.out
        have nsame := neq_same
        simp only [List.length_singleton]
        go_wp2_with (go_at_call 14; refine (asBin_ptr _ _).mono ?_; rintro e w' ⟨rfl, hw⟩; obtain rfl := hw.symm)
        go_loopw [17] (fun i w' => ∃ k : Nat, k ≤ n1 ∧ i = .int .i64 k ∧ Below w10.heap.size w10 w') (fun i _ => n1 - (intOf i).toNat)
        case atStart => exact ⟨0, Nat.zero_le _, rfl, Below.refl _ _⟩
        case round =>
          obtain ⟨k, hk, rfl, hb⟩ := hrel
          have HB : Hid (Below w10.heap.size w10 wr) := hb
          clear hb
          by_cases hlt : k < n1
          · obtain ⟨u, hu⟩ : ∃ u, (conj T1)[k]? = some u := ⟨(conj T1)[k]'(by have := EN1.out; omega), by simp⟩
            have F : Hid (Calls Try.prog 15 #[.slice (some ⟨g1, 0, none⟩) n1 cap1, .int .i64 k] wr fun e w' => e = .returned (.bool true) ∧ Below wr.heap.size wr w') :=
              fixed_any T1 g1 n1 cap1 k u wr hlt (row_below HB.out W1.out) hu (rep_below HB.out (Nat.le_refl _) _ R1.out)
            clear hu
            go_wp2_with fail
            refine F.out.mono ?_
            clear F
            rintro e wn ⟨rfl, hbn⟩
            have HBN : Hid (Below w10.heap.size w10 wn) := HB.out.trans (hbn.mono HB.out.size)
            clear hbn
            go_wp2_with fail
            exact ⟨⟨k + 1, by omega, by go_num, HBN.out⟩, by simp [intOf]; omega⟩
          · go_wp2_with fail
            go_loopw [18] (fun i w' => ∃ k : Nat, k ≤ n2 ∧ i = .int .i64 k ∧ Below w10.heap.size w10 w') (fun i _ => n2 - (intOf i).toNat)
            case atStart => exact ⟨0, Nat.zero_le _, rfl, HB.out⟩
            case round =>
              obtain ⟨j, hj, rfl, hb⟩ := hrel
              have HB2 : Hid (Below w10.heap.size w10 wr) := hb
              clear hb
              by_cases hlt2 : j < n2
              · obtain ⟨u, hu⟩ : ∃ u, (conj T2)[j]? = some u := ⟨(conj T2)[j]'(by have := EN2.out; omega), by simp⟩
                have F : Hid (Calls Try.prog 15 #[.slice (some ⟨g2, 0, none⟩) n2 cap2, .int .i64 j] wr fun e w' => e = .returned (.bool true) ∧ Below wr.heap.size wr w') :=
                  fixed_any T2 g2 n2 cap2 j u wr hlt2 (row_below HB2.out W2.out) hu (rep_below HB2.out (Nat.le_refl _) _ R2.out)
                clear hu
                go_wp2_with fail
                refine F.out.mono ?_
                clear F
                rintro e wn ⟨rfl, hbn⟩
                have HBN : Hid (Below w10.heap.size w10 wn) := HB2.out.trans (hbn.mono HB2.out.size)
                clear hbn
                go_wp2_with fail
                exact ⟨⟨j + 1, by omega, by go_num, HBN.out⟩, by simp [intOf]; omega⟩
              · go_wp2_with fail
                go_ret
                exact ⟨rfl, B10'.trans (HB2.out.mono B10'.size)⟩
    · rcases ptr_val T2 with ⟨p2, u2⟩ | ⟨a2, p2, u2⟩
      · have PV1 : Hid (val T1 = .iface 25 (.pointer (some a1))) := u1
        have PV2 : Hid (val T2 = .nilIface) := u2
        simp only [p1, p2]
        clear p1 p2 u1 u2
        go_wp2_with fail
        refine (zz_and (T1 := T1) (T2 := T2) isAnd_AND R1.out R2.out PV1.out PV2.out (by have h1 := EN1.out; have h2 := EN2.out; omega)).mono ?_
        rintro e w7 ⟨g7, cap7, rfl, own7, hb7, lo7, hi7⟩
        have B7' : Below w.heap.size w w7 := (B6'.alloc B6'.size _).trans (hb7.mono (B6'.alloc B6'.size _).size)
        have hb67 := (below_new w6 _).trans (hb7.mono (by simp))
        replace R1 : Hid (rep w7 T1) := rep_below hb67 (Nat.le_refl _) _ R1.out
        replace R2 : Hid (rep w7 T2) := rep_below hb67 (Nat.le_refl _) _ R2.out
        replace W1 : Hid (Row w7 g1 (conj T1)) := row_below hb67 W1.out
        replace W2 : Hid (Row w7 g2 (conj T2)) := row_below hb67 W2.out
        have W7 : Hid (Row w7 g7 (conj T1 ++ conj T2)) := row_of_own own7 hi7
        have en7 : (conj T1 ++ conj T2).length = n1 + n2 := by rw [List.length_append, ← EN1.out, ← EN2.out]
        clear own7 hb7 lo7 hi7 B6' hb67
        rw [en7]
        clear en7
        go_wp2_with fail
        refine (concat_any g7 (n1 + n2) cap7 g1 n1 cap1 g2 n2 cap2 (conj T1) (conj T2) _ E1.out E2.out EN1.out.symm EN2.out.symm rfl (by omega) (by omega) W7.out W1.out W2.out).mono ?_
        rintro e w8 ⟨rfl, hb8⟩
        have B8' : Below w.heap.size w w8 := B7'.trans (hb8.mono B7'.size)
        replace R1 : Hid (rep w8 T1) := rep_below hb8 (Nat.le_refl _) _ R1.out
        replace R2 : Hid (rep w8 T2) := rep_below hb8 (Nat.le_refl _) _ R2.out
        replace W1 : Hid (Row w8 g1 (conj T1)) := row_below hb8 W1.out
        replace W2 : Hid (Row w8 g2 (conj T2)) := row_below hb8 W2.out
        clear hb8 B7' W7
        go_wp2_with fail
        refine (zz_one (T1 := T1) (T2 := T2) HA.out R1.out R2.out PV1.out PV2.out).mono ?_
        rintro e w10 ⟨g9, cap9, rfl, own9, hb9, lo9, hi9⟩
        have B10' : Below w.heap.size w w10 := (B8'.alloc B8'.size _).trans (hb9.mono (B8'.alloc B8'.size _).size)
        have hb89 := (below_new w8 _).trans (hb9.mono (by simp))
        replace R1 : Hid (rep w10 T1) := rep_below hb89 (Nat.le_refl _) _ R1.out
        replace R2 : Hid (rep w10 T2) := rep_below hb89 (Nat.le_refl _) _ R2.out
        replace W1 : Hid (Row w10 g1 (conj T1)) := row_below hb89 W1.out
        replace W2 : Hid (Row w10 g2 (conj T2)) := row_below hb89 W2.out
        have W9 := (row_of_own own9 hi9).2 0 _ rfl
        clear own9 hb9 lo9 hi9 B8' hb89
        have hand : (op.toList == [65, 78, 68]) = false := HA.out
        have nsame := neq_same
        simp only [List.length_singleton]
        go_wp2_with (go_at_call 14; refine (asBin_ptr _ _).mono ?_; rintro e w' ⟨rfl, hw⟩; obtain rfl := hw.symm)
        go_loopw [17] (fun i w' => ∃ k : Nat, k ≤ n1 ∧ i = .int .i64 k ∧ Below w10.heap.size w10 w') (fun i _ => n1 - (intOf i).toNat)
        case atStart => exact ⟨0, Nat.zero_le _, rfl, Below.refl _ _⟩
        case round =>
          obtain ⟨k, hk, rfl, hb⟩ := hrel
          have HB : Hid (Below w10.heap.size w10 wr) := hb
          clear hb
          by_cases hlt : k < n1
          · obtain ⟨u, hu⟩ : ∃ u, (conj T1)[k]? = some u := ⟨(conj T1)[k]'(by have := EN1.out; omega), by simp⟩
            have F : Hid (Calls Try.prog 15 #[.slice (some ⟨g1, 0, none⟩) n1 cap1, .int .i64 k] wr fun e w' => e = .returned (.bool true) ∧ Below wr.heap.size wr w') :=
              fixed_any T1 g1 n1 cap1 k u wr hlt (row_below HB.out W1.out) hu (rep_below HB.out (Nat.le_refl _) _ R1.out)
            clear hu
            go_wp2_with fail
            refine F.out.mono ?_
            clear F
            rintro e wn ⟨rfl, hbn⟩
            have HBN : Hid (Below w10.heap.size w10 wn) := HB.out.trans (hbn.mono HB.out.size)
            clear hbn
            go_wp2_with fail
            exact ⟨⟨k + 1, by omega, by go_num, HBN.out⟩, by simp [intOf]; omega⟩
          · go_wp2_with fail
            go_loopw [18] (fun i w' => ∃ k : Nat, k ≤ n2 ∧ i = .int .i64 k ∧ Below w10.heap.size w10 w') (fun i _ => n2 - (intOf i).toNat)
            case atStart => exact ⟨0, Nat.zero_le _, rfl, HB.out⟩
            case round =>
              obtain ⟨j, hj, rfl, hb⟩ := hrel
              have HB2 : Hid (Below w10.heap.size w10 wr) := hb
              clear hb
              by_cases hlt2 : j < n2
              · obtain ⟨u, hu⟩ : ∃ u, (conj T2)[j]? = some u := ⟨(conj T2)[j]'(by have := EN2.out; omega), by simp⟩
                have F : Hid (Calls Try.prog 15 #[.slice (some ⟨g2, 0, none⟩) n2 cap2, .int .i64 j] wr fun e w' => e = .returned (.bool true) ∧ Below wr.heap.size wr w') :=
                  fixed_any T2 g2 n2 cap2 j u wr hlt2 (row_below HB2.out W2.out) hu (rep_below HB2.out (Nat.le_refl _) _ R2.out)
                clear hu
                go_wp2_with fail
                refine F.out.mono ?_
                clear F
                rintro e wn ⟨rfl, hbn⟩
                have HBN : Hid (Below w10.heap.size w10 wn) := HB2.out.trans (hbn.mono HB2.out.size)
                clear hbn
                go_wp2_with fail
                exact ⟨⟨j + 1, by omega, by go_num, HBN.out⟩, by simp [intOf]; omega⟩
              · go_wp2_with fail
                go_ret
                exact ⟨rfl, B10'.trans (HB2.out.mono B10'.size)⟩
      · have PV1 : Hid (val T1 = .iface 25 (.pointer (some a1))) := u1
        have PV2 : Hid (val T2 = .iface 25 (.pointer (some a2))) := u2
        simp only [p1, p2]
        clear p1 p2 u1 u2
        go_wp2_with fail
        refine (zz_and (T1 := T1) (T2 := T2) isAnd_AND R1.out R2.out PV1.out PV2.out (by have h1 := EN1.out; have h2 := EN2.out; omega)).mono ?_
        rintro e w7 ⟨g7, cap7, rfl, own7, hb7, lo7, hi7⟩
        have B7' : Below w.heap.size w w7 := (B6'.alloc B6'.size _).trans (hb7.mono (B6'.alloc B6'.size _).size)
        have hb67 := (below_new w6 _).trans (hb7.mono (by simp))
        replace R1 : Hid (rep w7 T1) := rep_below hb67 (Nat.le_refl _) _ R1.out
        replace R2 : Hid (rep w7 T2) := rep_below hb67 (Nat.le_refl _) _ R2.out
        replace W1 : Hid (Row w7 g1 (conj T1)) := row_below hb67 W1.out
        replace W2 : Hid (Row w7 g2 (conj T2)) := row_below hb67 W2.out
        have W7 : Hid (Row w7 g7 (conj T1 ++ conj T2)) := row_of_own own7 hi7
        have en7 : (conj T1 ++ conj T2).length = n1 + n2 := by rw [List.length_append, ← EN1.out, ← EN2.out]
        clear own7 hb7 lo7 hi7 B6' hb67
        rw [en7]
        clear en7
        go_wp2_with fail
        refine (concat_any g7 (n1 + n2) cap7 g1 n1 cap1 g2 n2 cap2 (conj T1) (conj T2) _ E1.out E2.out EN1.out.symm EN2.out.symm rfl (by omega) (by omega) W7.out W1.out W2.out).mono ?_
        rintro e w8 ⟨rfl, hb8⟩
        have B8' : Below w.heap.size w w8 := B7'.trans (hb8.mono B7'.size)
        replace R1 : Hid (rep w8 T1) := rep_below hb8 (Nat.le_refl _) _ R1.out
        replace R2 : Hid (rep w8 T2) := rep_below hb8 (Nat.le_refl _) _ R2.out
        replace W1 : Hid (Row w8 g1 (conj T1)) := row_below hb8 W1.out
        replace W2 : Hid (Row w8 g2 (conj T2)) := row_below hb8 W2.out
        clear hb8 B7' W7
        go_wp2_with fail
        refine (zz_one (T1 := T1) (T2 := T2) HA.out R1.out R2.out PV1.out PV2.out).mono ?_
        rintro e w10 ⟨g9, cap9, rfl, own9, hb9, lo9, hi9⟩
        have B10' : Below w.heap.size w w10 := (B8'.alloc B8'.size _).trans (hb9.mono (B8'.alloc B8'.size _).size)
        have hb89 := (below_new w8 _).trans (hb9.mono (by simp))
        replace R1 : Hid (rep w10 T1) := rep_below hb89 (Nat.le_refl _) _ R1.out
        replace R2 : Hid (rep w10 T2) := rep_below hb89 (Nat.le_refl _) _ R2.out
        replace W1 : Hid (Row w10 g1 (conj T1)) := row_below hb89 W1.out
        replace W2 : Hid (Row w10 g2 (conj T2)) := row_below hb89 W2.out
        have W9 := (row_of_own own9 hi9).2 0 _ rfl
        clear own9 hb9 lo9 hi9 B8' hb89
        have hand : (op.toList == [65, 78, 68]) = false := HA.out
        have nsame := neq_same
        simp only [List.length_singleton]
        go_wp2_with (go_at_call 14; refine (asBin_ptr _ _).mono ?_; rintro e w' ⟨rfl, hw⟩; obtain rfl := hw.symm)
        go_loopw [17] (fun i w' => ∃ k : Nat, k ≤ n1 ∧ i = .int .i64 k ∧ Below w10.heap.size w10 w') (fun i _ => n1 - (intOf i).toNat)
        case atStart => exact ⟨0, Nat.zero_le _, rfl, Below.refl _ _⟩
        case round =>
          obtain ⟨k, hk, rfl, hb⟩ := hrel
          have HB : Hid (Below w10.heap.size w10 wr) := hb
          clear hb
          by_cases hlt : k < n1
          · obtain ⟨u, hu⟩ : ∃ u, (conj T1)[k]? = some u := ⟨(conj T1)[k]'(by have := EN1.out; omega), by simp⟩
            have F : Hid (Calls Try.prog 15 #[.slice (some ⟨g1, 0, none⟩) n1 cap1, .int .i64 k] wr fun e w' => e = .returned (.bool true) ∧ Below wr.heap.size wr w') :=
              fixed_any T1 g1 n1 cap1 k u wr hlt (row_below HB.out W1.out) hu (rep_below HB.out (Nat.le_refl _) _ R1.out)
            clear hu
            go_wp2_with fail
            refine F.out.mono ?_
            clear F
            rintro e wn ⟨rfl, hbn⟩
            have HBN : Hid (Below w10.heap.size w10 wn) := HB.out.trans (hbn.mono HB.out.size)
            clear hbn
            go_wp2_with fail
            exact ⟨⟨k + 1, by omega, by go_num, HBN.out⟩, by simp [intOf]; omega⟩
          · go_wp2_with fail
            go_loopw [18] (fun i w' => ∃ k : Nat, k ≤ n2 ∧ i = .int .i64 k ∧ Below w10.heap.size w10 w') (fun i _ => n2 - (intOf i).toNat)
            case atStart => exact ⟨0, Nat.zero_le _, rfl, HB.out⟩
            case round =>
              obtain ⟨j, hj, rfl, hb⟩ := hrel
              have HB2 : Hid (Below w10.heap.size w10 wr) := hb
              clear hb
              by_cases hlt2 : j < n2
              · obtain ⟨u, hu⟩ : ∃ u, (conj T2)[j]? = some u := ⟨(conj T2)[j]'(by have := EN2.out; omega), by simp⟩
                have F : Hid (Calls Try.prog 15 #[.slice (some ⟨g2, 0, none⟩) n2 cap2, .int .i64 j] wr fun e w' => e = .returned (.bool true) ∧ Below wr.heap.size wr w') :=
                  fixed_any T2 g2 n2 cap2 j u wr hlt2 (row_below HB2.out W2.out) hu (rep_below HB2.out (Nat.le_refl _) _ R2.out)
                clear hu
                go_wp2_with fail
                refine F.out.mono ?_
                clear F
                rintro e wn ⟨rfl, hbn⟩
                have HBN : Hid (Below w10.heap.size w10 wn) := HB2.out.trans (hbn.mono HB2.out.size)
                clear hbn
                go_wp2_with fail
                exact ⟨⟨j + 1, by omega, by go_num, HBN.out⟩, by simp [intOf]; omega⟩
              · go_wp2_with fail
                go_ret
                exact ⟨rfl, B10'.trans (HB2.out.mono B10'.size)⟩
end Go.Proofs.Qxb6616491a
