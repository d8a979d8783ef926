import Derived.Test.Qxb6616724aFmtFit
namespace Go.Proofs.Qxb6616724aFmt
open Go.RowKit

theorem below_drews (B : Nat) (w : World) (n : Nat) : Below B w (w.drewN n) := ⟨rfl, rfl, rfl, Nat.le_refl _, fun _ _ => rfl⟩
theorem bs_drews {w : World} {a : Option Addr} {n c : Nat} {xs : List Int} (k : Nat) (h : BS w a n c xs) : BS (w.drewN k) a n c xs := bs_below (below_drews _ w k) h
theorem quiet_of_drews {P : Program} {f : FuncId} {args : Array Value} {w : World} {n : Nat} {v : Value}
    (h : Calls P f args (w.drewN n) fun e w' => e = .returned v ∧ ∃ k, w' = (w.drewN n).drewN k) : Calls P f args (w.drewN n) fun e w'' => e = .returned v ∧ ∃ m, w'' = w.drewN m :=
  h.mono fun _ _ ⟨he, k, hm⟩ => ⟨he, n + k, by rw [hm, World.drewN_drewN]⟩

set_option maxHeartbeats 2000000 in
theorem bytesEqual_any (a a' : Option Addr) (n c n' c' : Nat) (xs ys : List Int) (w : World) (hS : BS w a n c xs) (hS' : BS w a' n' c' ys) :
    Calls Tryf.prog 12 #[.slice a n c, .slice a' n' c'] w fun e w' => e = .returned (.bool (xs == ys)) ∧ ∃ k, w' = w.drewN k := by
  have hm : n ≤ maxLen := Nat.le_trans hS.2.1 hS.2.2.1
  have hm' : n' ≤ maxLen := Nat.le_trans hS'.2.1 hS'.2.2.1
  unfold maxLen at hm hm'
  have HS : Hid (BS w a n c xs ∧ BS w a' n' c' ys) := ⟨hS, hS'⟩
  clear hS hS'
  by_cases h0 : (n : Int) = n'
  · obtain rfl : n = n' := by omega
    go_enter Tryf.func12, Tryf.ntmps12
    go_wp2_with fail
    go_loopw [5] (fun i w' => ∃ (k q : Nat), k ≤ n ∧ i = .int .i64 k ∧ xs.take k = ys.take k ∧ w' = w.drewN q) (fun i _ => n - (intOf i).toNat)
    case atStart => exact ⟨0, 0, Nat.zero_le _, rfl, rfl, rfl⟩
    case round =>
      obtain ⟨k, q, hk, rfl, hI, rfl⟩ := hrel
      have HI : Hid (xs.take k = ys.take k) := hI
      clear hI
      by_cases hlt : k < n
      · obtain ⟨x, b, off, hs, hx, rfl, hb, hc⟩ := bs_at HS.out.1 k hlt
        obtain ⟨y, b', off', hs', hy, rfl, hb', hc'⟩ := bs_at HS.out.2 k hlt
        have Hs : Hid (xs[k]? = some x ∧ ys[k]? = some y) := ⟨hs, hs'⟩
        clear hs hs'
        obtain ⟨x0, x1⟩ := hx
        obtain ⟨y0, y1⟩ := hy
        by_cases he : x = y
        · subst he
          have HN : Hid (xs.take (k + 1) = ys.take (k + 1)) := take_snoc HI.out Hs.out.1 Hs.out.2
          clear HI Hs
          go_wp2_with fail
          go_quiet (fail)
          go_wp2_with fail
          exact ⟨⟨k + 1, _, by omega, by go_num, HN.out, by first | rfl | rw [World.drewN_drewN]⟩, by simp [intOf]; omega⟩
        · have hd : (x != y) = true := by simpa using he
          have HN : Hid ((xs == ys) = false) := by
            show (xs == ys) = false
            cases h : xs == ys with
            | false => rfl
            | true =>
              have := eq_of_beq h
              subst this
              have h1 := Hs.out.1
              rw [Hs.out.2] at h1
              cases h1
              exact absurd rfl he
          clear HI Hs
          go_wp2_with fail
          go_quiet (fail)
          go_wp2_with fail
          go_ret
          exact ⟨by rw [HN.out]; rfl, _, by first | rfl | rw [World.drewN_drewN]⟩
      · have HN : Hid ((xs == ys) = true) := by
          show (xs == ys) = true
          have h1 := HI.out
          have l1 := HS.out.1.1
          have l2 := HS.out.2.1
          rw [List.take_of_length_le (by omega), List.take_of_length_le (by omega)] at h1
          rw [h1]
          simp
        clear HI
        go_wp2_with fail
        go_ret
        exact ⟨by rw [HN.out]; rfl, _, rfl⟩
  · have hd : ((n : Int) != n') = true := by simpa using h0
    have HN : Hid ((xs == ys) = false) := by
      show (xs == ys) = false
      cases h : xs == ys with
      | false => rfl
      | true =>
        have := eq_of_beq h
        subst this
        have l1 := HS.out.1.1
        have l2 := HS.out.2.1
        omega
    go_enter Tryf.func12, Tryf.ntmps12
    go_wp2_with fail
    go_ret
    exact ⟨by rw [HN.out]; rfl, 0, rfl⟩

/-- the entries: each name's bytes, and whether it is a subtree -/
def es (vs : List NV) (ms : List Int) : List (List Int × Bool) := List.zipWith (fun (v : NV) (m : Int) => (v.xs, m == 16384)) vs ms
theorem es_at {vs : List NV} {ms : List Int} {i : Nat} {v : NV} {m : Int} (h1 : vs[i]? = some v) (h2 : ms[i]? = some m) : (es vs ms).getD i ([], false) = (v.xs, m == 16384) := by
  simp [es, List.getD, List.getElem?_zipWith, h1, h2]
theorem es_len {vs : List NV} {ms : List Int} (h : vs.length = ms.length) : (es vs ms).length = vs.length := by simp [es, h]
theorem nm_at {vs : List NV} {ms : List Int} {i : Nat} {v : NV} {m : Int} (h1 : vs[i]? = some v) (h2 : ms[i]? = some m) : Pl.nm (es vs ms) i = v.xs := by rw [Pl.nm, es_at h1 h2]
theorem tr_at {vs : List NV} {ms : List Int} {i : Nat} {v : NV} {m : Int} (h1 : vs[i]? = some v) (h2 : ms[i]? = some m) : Pl.tr (es vs ms) i = (m == 16384) := by rw [Pl.tr, es_at h1 h2]
theorem key_at {vs : List NV} {ms : List Int} {i : Nat} {v : NV} {m : Int} (h1 : vs[i]? = some v) (h2 : ms[i]? = some m) : Pl.keyAt (es vs ms) i = Pl.key v.xs (m == 16384) := by rw [Pl.keyAt, nm_at h1 h2, tr_at h1 h2]

/-- the world has only drawn -/
def Drew (w w' : World) : Prop := ∃ q, w' = w.drewN q
theorem Drew.below {w w' : World} (h : Drew w w') (B : Nat) : Below B w w' := by obtain ⟨q, rfl⟩ := h; exact below_drews _ _ _
theorem Drew.more {w w' : World} (h : Drew w w') (m : Nat) : Drew w (w'.drewN m) := by obtain ⟨q, rfl⟩ := h; exact ⟨q + m, by rw [World.drewN_drewN]⟩
theorem Drew.refl (w : World) : Drew w w := ⟨0, rfl⟩

def IsV (vs : List NV) (ms : List Int) (e : Ending) : Prop := ∃ t, e = .returned (.bool t) ∧ (t = true → Pl.Valid (es vs ms))

set_option maxHeartbeats 4000000 in
theorem valid_any (a a' : Option Addr) (n c c' : Nat) (vs : List NV) (ms : List Int) (w : World) (hS : NS w a n vs) (hM : MS w a' n ms) (hn : n ≤ 1024) (hl : ∀ (i : Nat) (v : NV), vs[i]? = some v → v.n ≤ 1048576) :
    Calls Tryf.prog 6 #[.slice a n c, .slice a' n c'] w fun e w' => IsV vs ms e ∧ Drew w w' := by
  have HS : Hid (NS w a n vs ∧ MS w a' n ms ∧ ∀ (i : Nat) (v : NV), vs[i]? = some v → v.n ≤ 1048576) := ⟨hS, hM, hl⟩
  clear hS hM hl
  have no : IsV vs ms (.returned (.bool false)) := ⟨false, rfl, fun h => by cases h⟩
  have NO : Hid (IsV vs ms (.returned (.bool false))) := no
  clear no
  go_enter Tryf.func6, Tryf.ntmps6
  go_wp2_with fail
  go_loopw [5] (fun i w' => ∃ (k : Nat), 1 ≤ k ∧ (k ≤ n ∨ k = 1) ∧ i = .int .i64 k ∧ (∀ (t : Nat), t + 1 < k → Pl.lex (Pl.keyAt (es vs ms) t) (Pl.keyAt (es vs ms) (t + 1)) < 0) ∧ Drew w w') (fun i _ => n + 1 - (intOf i).toNat)
  case atStart => exact ⟨1, Nat.le_refl _, .inr rfl, rfl, fun t ht => by omega, Drew.refl _⟩
  case round =>
    obtain ⟨k, hk1, hk, rfl, hI, hD⟩ := hrel
    have HD : Hid (Drew w wr) := hD
    clear hD
    have HI : Hid (∀ (t : Nat), t + 1 < k → Pl.lex (Pl.keyAt (es vs ms) t) (Pl.keyAt (es vs ms) (t + 1)) < 0) := hI
    clear hI
    by_cases hlt : k < n
    · obtain ⟨k, rfl⟩ : ∃ j, k = j + 1 := ⟨k - 1, by omega⟩
      obtain ⟨d, m, cc, xs, b, off, hs, hB, e1, hbz, hc⟩ := ns_at (ns_below (HD.out.below _) HS.out.1) k (by omega)
      obtain ⟨d', m', cc', ys, b2, off2, hs', hB', e2, hbz', hc'⟩ := ns_at (ns_below (HD.out.below _) HS.out.1) (k + 1) (by omega)
      obtain ⟨mo, b3, off3, ht, e3, hbm, hcm⟩ := ms_at (ms_below (HD.out.below _) HS.out.2.1) k (by omega)
      obtain ⟨mo', b4, off4, ht', e4, hbm', hcm'⟩ := ms_at (ms_below (HD.out.below _) HS.out.2.1) (k + 1) (by omega)
      subst e1
      cases e2
      subst e3
      cases e4
      have HK : Hid (Pl.keyAt (es vs ms) k = Pl.key xs (mo == 16384) ∧ Pl.keyAt (es vs ms) (k + 1) = Pl.key ys (mo' == 16384)) := ⟨key_at hs ht, key_at hs' ht'⟩
      have HB : Hid (BS wr d m cc xs ∧ BS wr d' m' cc' ys ∧ m ≤ 1048576 ∧ m' ≤ 1048576) := ⟨hB, hB', HS.out.2.2 k _ hs, HS.out.2.2 (k + 1) _ hs'⟩
      clear hs hs' ht ht' hB hB' hk
      have i0 : (0 : Int) ≤ ((k + 1 : Nat) : Int) - 1 := by omega
      have i1 : ((k + 1 : Nat) : Int) < (n : Int) := by omega
      have i2 : ((k + 1 : Nat) : Int) - 1 < (n : Int) := by omega
      have i3 : ((k : Int) + 1) < (n : Int) := by omega
      have i4 : (k : Int) < (n : Int) := by omega
      have i5 : (0 : Int) ≤ (k : Int) + 1 := by omega
      have hm : n ≤ 9223372036854775807 := by omega
      have wk : IntKind.i64.wrap (k : Int) = k := by rw [IntKind.wrap_i64]; omega
      by_cases hl : Pl.lex (Pl.key xs (mo == 16384)) (Pl.key ys (mo' == 16384)) < 0
      · have HL : Hid (Pl.lex (Pl.key xs (mo == 16384)) (Pl.key ys (mo' == 16384)) < 0) := hl
        go_wp2_with fail
        go_quiet ((go_at_call 9; exact Calls.quiet_of_same (keyCmp_any _ _ _ _ _ _ xs ys _ _ _ (bs_drews _ HB.out.1) (bs_drews _ HB.out.2.1) HB.out.2.2.1 HB.out.2.2.2)))
        go_wp2_with fail
        refine ⟨⟨k + 1 + 1, by omega, .inl (by omega), by go_num, ?_, HD.out.more _⟩, by simp [intOf]; omega⟩
        intro t ht
        rcases Nat.lt_or_ge (t + 1) (k + 1) with h | h
        · exact HI.out t h
        · obtain rfl : t = k := by omega
          rw [HK.out.1, HK.out.2]
          exact HL.out
      · go_wp2_with fail
        go_quiet ((go_at_call 9; exact Calls.quiet_of_same (keyCmp_any _ _ _ _ _ _ xs ys _ _ _ (bs_drews _ HB.out.1) (bs_drews _ HB.out.2.1) HB.out.2.2.1 HB.out.2.2.2)))
        go_wp2_with fail
        go_ret
        exact ⟨NO.out, HD.out.more _⟩
    · have HV : Hid (∀ i, i + 1 < (es vs ms).length → Pl.lex (Pl.keyAt (es vs ms) i) (Pl.keyAt (es vs ms) (i + 1)) < 0) := by
        intro i hi
        have l1 := HS.out.1.1
        have l2 := HS.out.2.1.1
        rw [es_len (by omega)] at hi
        exact HI.out i (by omega)
      clear HI hk
      go_wp2_with fail
      go_loopw [6] (fun i w' => ∃ (k : Nat), k ≤ n ∧ i = .int .i64 k ∧ (∀ i j, j < i → i < k → Pl.tr (es vs ms) i = true → Pl.tr (es vs ms) j = false → Pl.nm (es vs ms) j ≠ Pl.nm (es vs ms) i) ∧ Drew w w') (fun i _ => n - (intOf i).toNat)
      case atStart => exact ⟨0, Nat.zero_le _, rfl, fun i j _ h => by omega, HD.out⟩
      case round =>
        clear hlt hk1
        clear HD
        obtain ⟨k, hk, rfl, hI, hD⟩ := hrel
        have HD : Hid (Drew w wr) := hD
        clear hD
        have HI : Hid (∀ i j, j < i → i < k → Pl.tr (es vs ms) i = true → Pl.tr (es vs ms) j = false → Pl.nm (es vs ms) j ≠ Pl.nm (es vs ms) i) := hI
        clear hI
        by_cases hlt : k < n
        · obtain ⟨d, m, cc, xs, b, off, hs, hB, e1, hbz, hc⟩ := ns_at (ns_below (HD.out.below _) HS.out.1) k (by omega)
          obtain ⟨mo, b3, off3, ht, e3, hbm, hcm⟩ := ms_at (ms_below (HD.out.below _) HS.out.2.1) k (by omega)
          subst e1
          subst e3
          have HK : Hid (Pl.nm (es vs ms) k = xs ∧ Pl.tr (es vs ms) k = (mo == 16384)) := ⟨nm_at hs ht, tr_at hs ht⟩
          have HB : Hid (BS wr d m cc xs ∧ ∀ w2, Drew w w2 → BS w2 d m cc xs ∧ w2.cell? ⟨b, off + k, none⟩ = some (.slice d m cc)) := by
            refine ⟨hB, fun w2 h2 => ?_⟩
            obtain ⟨g1, _, _, e, _, g2⟩ := (ns_below (h2.below _) HS.out.1).2.2 k _ hs
            cases e
            exact ⟨g1, g2⟩
          clear hs ht hB
          by_cases hmo : mo = 16384
          · subst hmo
            go_wp2_with fail
            go_loopw [7] (fun i w' => ∃ (j : Nat), j ≤ k ∧ i = .int .i64 j ∧ (∀ t, t < j → Pl.tr (es vs ms) t = false → Pl.nm (es vs ms) t ≠ xs) ∧ Drew w w') (fun i _ => k - (intOf i).toNat)
            case atStart => exact ⟨0, Nat.zero_le _, rfl, fun t h => by omega, HD.out⟩
            case round =>
              clear HD
              obtain ⟨j, hj, rfl, hJ, hD⟩ := hrel
              have HD : Hid (Drew w wr) := hD
              clear hD
              have HJ : Hid (∀ t, t < j → Pl.tr (es vs ms) t = false → Pl.nm (es vs ms) t ≠ xs) := hJ
              clear hJ
              by_cases hlj : j < k
              · obtain ⟨d', m', cc', ys, b', off', hs', hB', e1', hbz', hc'⟩ := ns_at (ns_below (HD.out.below _) HS.out.1) j (by omega)
                obtain ⟨mo', b3', off3', ht', e3', hbm', hcm'⟩ := ms_at (ms_below (HD.out.below _) HS.out.2.1) j (by omega)
                cases e1'
                cases e3'
                have HK' : Hid (Pl.nm (es vs ms) j = ys ∧ Pl.tr (es vs ms) j = (mo' == 16384)) := ⟨nm_at hs' ht', tr_at hs' ht'⟩
                have HB' : Hid (BS wr d' m' cc' ys) := hB'
                clear hs' ht' hB'
                have hck := (HB.out.2 _ HD.out).2
                have j1 : (j : Int) < n := by omega
                have k1 : (k : Int) < n := by omega
                by_cases hmo' : mo' = 16384
                · subst hmo'
                  have HN : Hid (∀ t, t < j + 1 → Pl.tr (es vs ms) t = false → Pl.nm (es vs ms) t ≠ xs) := by
                    intro t h1 h2
                    rcases Nat.lt_or_ge t j with h | h
                    · exact HJ.out t h h2
                    · obtain rfl : t = j := by omega
                      rw [HK'.out.2] at h2
                      simp at h2
                  clear HJ
                  go_wp2_with fail
                  go_quiet (fail)
                  go_wp2_with fail
                  exact ⟨⟨j + 1, by omega, by go_num, HN.out, HD.out.more _⟩, by simp [intOf]; omega⟩
                · have hmd : (mo' != 16384) = true := by simpa using hmo'
                  cases he : ys == xs with
                  | true =>
                    go_wp2_with fail
                    go_quiet ((go_at_call 12; exact quiet_of_drews (bytesEqual_any _ _ _ _ _ _ ys xs _ (bs_drews _ HB'.out) (bs_drews _ (HB.out.2 _ HD.out).1))))
                    go_wp2_with fail
                    go_ret
                    exact ⟨NO.out, HD.out.more _⟩
                  | false =>
                    have HN : Hid (∀ t, t < j + 1 → Pl.tr (es vs ms) t = false → Pl.nm (es vs ms) t ≠ xs) := by
                      intro t h1 h2
                      rcases Nat.lt_or_ge t j with h | h
                      · exact HJ.out t h h2
                      · obtain rfl : t = j := by omega
                        rw [HK'.out.1]
                        intro h
                        rw [h] at he
                        simp at he
                    clear HJ
                    go_wp2_with fail
                    go_quiet ((go_at_call 12; exact quiet_of_drews (bytesEqual_any _ _ _ _ _ _ ys xs _ (bs_drews _ HB'.out) (bs_drews _ (HB.out.2 _ HD.out).1))))
                    go_wp2_with fail
                    exact ⟨⟨j + 1, by omega, by go_num, HN.out, HD.out.more _⟩, by simp [intOf]; omega⟩
              · have HN : Hid (∀ i j, j < i → i < k + 1 → Pl.tr (es vs ms) i = true → Pl.tr (es vs ms) j = false → Pl.nm (es vs ms) j ≠ Pl.nm (es vs ms) i) := by
                  intro i t h1 h2 h3 h4
                  rcases Nat.lt_or_ge i k with h | h
                  · exact HI.out i t h1 h h3 h4
                  · obtain rfl : i = k := by omega
                    rw [HK.out.1]
                    exact HJ.out t (by omega) h4
                clear HJ HI
                go_wp2_with fail
                exact ⟨⟨k + 1, by omega, by go_num, HN.out, HD.out⟩, by simp [intOf]; omega⟩
          · have hmd : (mo != 16384) = true := by simpa using hmo
            have HN : Hid (∀ i j, j < i → i < k + 1 → Pl.tr (es vs ms) i = true → Pl.tr (es vs ms) j = false → Pl.nm (es vs ms) j ≠ Pl.nm (es vs ms) i) := by
              intro i t h1 h2 h3 h4
              rcases Nat.lt_or_ge i k with h | h
              · exact HI.out i t h1 h h3 h4
              · obtain rfl : i = k := by omega
                rw [HK.out.2] at h3
                exact absurd (eq_of_beq h3) hmo
            clear HI
            go_wp2_with fail
            exact ⟨⟨k + 1, by omega, by go_num, HN.out, HD.out⟩, by simp [intOf]; omega⟩
        · have HF : Hid (Pl.Valid (es vs ms)) := by
            refine ⟨HV.out, fun i j h1 h2 => HI.out i j h1 ?_⟩
            have l1 := HS.out.1.1
            have l2 := HS.out.2.1.1
            rw [es_len (by omega)] at h2
            omega
          clear HI
          go_wp2_with fail
          go_ret
          exact ⟨⟨true, rfl, fun _ => HF.out⟩, HD.out⟩
end Go.Proofs.Qxb6616724aFmt
