import Derived.Test.Qxb6616724aFmtLawA
import Derived.Deep.DeepCutAuto
import Derived.Deep.CutBlock
namespace Go.Proofs.Qxb6616724aFmt
open Go.RowKit Go.Extern.Stop Go.Stop Go.Extern

set_option maxRecDepth 100000 in
set_option maxHeartbeats 8000000 in
theorem law_any (F : Interp) (a a' : Option Addr) (n c n' c' : Nat) (j : Int) (vs : List NV) (ms : List Int) (w : World) (hS : NS w a n vs) (hM : MS w a' n' ms) (hF : F.answers w.tape) :
    Calls Tryf.prog 3 #[.slice a n c, .slice a' n' c', .int .i64 j] w fun e w' => e = .returned (.bool true) ∧ Below w.heap.size w w' := by
  have m1 : n ≤ maxLen := hS.2.1
  have m2 : n' ≤ maxLen := hM.2.1
  unfold maxLen at m1 m2
  have HS : Hid (NS w a n vs ∧ MS w a' n' ms ∧ F.answers w.tape) := ⟨hS, hM, hF⟩
  clear hS hM hF
  go_enter Tryf.func3, Tryf.ntmps3
  go_wp2_with fail
  refine (bytes_any a a' n c n' c' j vs _ HS.out.1 HS.out.2.1.2.1).mono ?_
  rintro e wv ⟨⟨t, rfl, hy⟩, hv⟩
  obtain rfl := hv.symm
  clear hv
  cases t with
  | false =>
    go_wp2_with fail
    go_ret
    exact ⟨rfl, Below.refl _ _⟩
  | true =>
    replace hy := hy rfl
    have HY : Hid (∀ (i : Nat) (v : NV), vs[i]? = some v → v.n ≤ 1048576) := hy
    clear hy
    go_wp2_with fail
    refine (fits_any a a' n c n' c' vs ms _ HS.out.1 HS.out.2.1).mono ?_
    rintro e wv ⟨⟨t, rfl, hy⟩, hv⟩
    obtain rfl := hv.symm
    clear hv
    cases t with
    | false =>
      go_wp2_with fail
      go_ret
      exact ⟨rfl, Below.refl _ _⟩
    | true =>
      have HZ : Hid (Fits vs ms) := hy rfl
      clear hy
      have en : n = n' := by
        have h1 := HS.out.1.1
        have h2 := HS.out.2.1.1
        have h3 := HZ.out.2.1
        omega
      subst en
      have hn : n ≤ 1024 := by
        have h1 := HS.out.1.1
        have h3 := HZ.out.1
        omega
      rcases Int.lt_or_le j 0 with hj0 | hj0
      · go_wp2_with fail
        go_ret
        exact ⟨rfl, Below.refl _ _⟩
      obtain ⟨J, rfl⟩ : ∃ J : Nat, j = J := ⟨j.toNat, by omega⟩
      have hj0' : ¬ (J : Int) < 0 := by omega
      rcases Nat.lt_or_ge J n with hJ | hJ
      · obtain ⟨mj, mb, moff, hmj, ea, hmb, hmc⟩ := ms_at HS.out.2.1 J hJ
        subst ea
        have i1 : (J : Int) < n := by omega
        have i2 : ¬ (n : Int) ≤ J := by omega
        cases htj : (mj == 16384) with
        | true =>
          go_wp2_with fail
          go_ret
          exact ⟨rfl, Below.refl _ _⟩
        | false =>
          go_wp2_with fail
          refine (valid_any a _ n c c' vs ms _ HS.out.1 HS.out.2.1 hn HY.out).mono ?_
          rintro e w4 ⟨⟨t, rfl, hy⟩, hD4⟩
          cases t with
          | false =>
            go_wp2_with fail
            go_ret
            exact ⟨rfl, hD4.below _⟩
          | true =>
            have HV : Hid (Pl.Valid (es vs ms) ∧ Below w.heap.size w w4) := ⟨hy rfl, hD4.below _⟩
            clear hy hD4 hmc
            go_wp2_with fail
            refine (copy_any a n c vs w4 (ns_below HV.out.2 HS.out.1) (by omega) hn (fun i v hv => ⟨HY.out i v hv, (HZ.out.2.2.1 i v hv).1⟩)).mono ?_
            rintro e w5 ⟨O, us, rfl, hul, hC, hNS, hB5⟩
            have HU : Hid (us.length = n ∧ Copies w5 O vs us ∧ NS w5 (some ⟨O, 0, none⟩) n us ∧ Below w.heap.size w w5 ∧ es us ms = es vs ms) :=
              ⟨hul, hC, hNS, HV.out.2.trans (hB5.mono HV.out.2.size), es_copies hC (by rw [hul, HS.out.1.1])⟩
            clear hul hC hNS hB5
            have hk : ∀ i, i < (es us ms).length → Pl.okName (Pl.nm (es us ms) i) := by
              intro i hi
              rw [HU.out.2.2.2.2] at hi ⊢
              rw [es_len HZ.out.2.1] at hi
              have h1 : i < ms.length := by have := HZ.out.2.1; omega
              rw [nm_at (List.getElem?_eq_getElem hi) (List.getElem?_eq_getElem h1)]
              exact HZ.out.2.2.1 i _ (List.getElem?_eq_getElem hi)
            have hv5 : Pl.Valid (es us ms) := by rw [HU.out.2.2.2.2]; exact HV.out.1
            have hlen : (es us ms).length = n := by rw [es_len (by rw [HU.out.1, HS.out.2.1.1]), HU.out.1]
            have hune : ∀ u ∈ us, u.xs ≠ [] := by
              intro u hu
              obtain ⟨i, hi⟩ := List.mem_iff_getElem?.1 hu
              obtain ⟨v, b, hv, hx, _⟩ := HU.out.2.1.2 i u hi
              rw [hx]
              exact (HZ.out.2.2.1 i v hv).1
            have HK : Hid ((∀ i, i < (es us ms).length → Pl.okName (Pl.nm (es us ms) i)) ∧ Pl.Valid (es us ms) ∧ (es us ms).length = n ∧ ∀ u ∈ us, u.xs ≠ []) := ⟨hk, hv5, hlen, hune⟩
            clear hk hv5 hlen hune
            go_wp2_with fail
            have hrun : Pl.RunsTo (es us ms) n := by
              have := Pl.runs_all HK.out.1 HK.out.2.1
              rw [HK.out.2.2.1] at this
              exact this
            refine Calls.mono (run_any F (some ⟨O, 0, none⟩) _ n n c' n us ms w5 HU.out.2.2.1 (ms_below HU.out.2.2.2.1 HS.out.2.1) HK.out.2.2.2 (by omega) hrun (by
              have e : w5.tape = w.tape := HU.out.2.2.2.1.tape
              rw [e]
              exact HS.out.2.2)) ?_
            rintro e w6 ⟨rfl, hB6⟩
            have H6 : Hid (Below w.heap.size w w6 ∧ Below w5.heap.size w5 w6) := ⟨HU.out.2.2.2.1.trans (hB6.mono HU.out.2.2.2.1.size), hB6⟩
            have HN : Hid (NS w6 (some ⟨O, 0, none⟩) n us ∧ MS w6 (some ⟨mb, moff, none⟩) n ms) := ⟨ns_below hB6 HU.out.2.2.1, ms_below H6.out.1 HS.out.2.1⟩
            clear hB6 hrun
            go_upto_block 0 with fail
            go_cut [8] (fun v8 wx => ∃ p : Nat, J < p ∧ p ≤ n ∧ v8 = .int .i64 p ∧ (∀ q, J < q → q < p → Pl.lex (Pl.keyAt (es us ms) q) (Pl.nm (es us ms) J ++ [47]) < 0) ∧ Drew w6 wx)
            case first =>
              go_wp2_with fail
              go_loopw [8] (fun v8 wx => ∃ p : Nat, J < p ∧ p ≤ n ∧ v8 = .int .i64 p ∧ (∀ q, J < q → q < p → Pl.lex (Pl.keyAt (es us ms) q) (Pl.nm (es us ms) J ++ [47]) < 0) ∧ Drew w6 wx) (fun i _ => n - (intOf i).toNat)
              case atStart => exact ⟨J + 1, by omega, by omega, by go_num, fun q h1 h2 => by omega, Drew.refl _⟩
              case round =>
                obtain ⟨p, hp1, hp2, rfl, hlow, hD⟩ := hrel
                have HR : Hid ((∀ q, J < q → q < p → Pl.lex (Pl.keyAt (es us ms) q) (Pl.nm (es us ms) J ++ [47]) < 0) ∧ Drew w6 wr) := ⟨hlow, hD⟩
                clear hlow hD
                by_cases hp : p < n
                · obtain ⟨d, nl, cl, xs, b, off, hs, hB, e1, hbz, hc⟩ := ns_at (ns_below (HR.out.2.below _) HN.out.1) p hp
                  cases e1
                  obtain ⟨d', nl', cl', ys, b2, off2, hs', hB', e2, hbz', hc'⟩ := ns_at (ns_below (HR.out.2.below _) HN.out.1) J hJ
                  cases e2
                  obtain ⟨mo, b3, off3, ht, e3, hbm, hcm⟩ := ms_at (ms_below (HR.out.2.below _) HN.out.2) p hp
                  cases e3
                  have HB : Hid (BS wr d nl cl xs ∧ BS wr d' nl' cl' ys ∧ nl ≤ 1048576 ∧ nl' ≤ 1048576 ∧ us[p]? = some (mkNV d nl cl xs) ∧ us[J]? = some (mkNV d' nl' cl' ys) ∧ ms[p]? = some mo) := by
                    obtain ⟨_, _, _, _, _, _, q1, _⟩ := HU.out.2.1.2 p _ hs
                    obtain ⟨_, _, _, _, _, _, q2, _⟩ := HU.out.2.1.2 J _ hs'
                    exact ⟨hB, hB', q1, q2, hs, hs', ht⟩
                  clear hB hB' hs hs' ht
                  rw [Nat.zero_add] at hc hc'
                  have i0 : (0 : Int) ≤ (p : Int) := by omega
                  have i3 : (p : Int) < (n : Int) := by omega
                  have i4 : (0 : Int) ≤ (J : Int) := by omega
                  have HKK : Hid (Pl.keyAt (es us ms) p = Pl.key xs (mo == 16384) ∧ Pl.nm (es us ms) J ++ [47] = Pl.key ys true) := by
                    refine ⟨key_at HB.out.2.2.2.2.1 HB.out.2.2.2.2.2.2, ?_⟩
                    have h1 : J < ms.length := by have := HS.out.2.1.1; omega
                    rw [nm_at HB.out.2.2.2.2.2.1 (List.getElem?_eq_getElem h1)]
                    rfl
                  by_cases hl : Pl.lex (Pl.key xs (mo == 16384)) (Pl.key ys true) < 0
                  · go_wp2_with fail
                    go_quiet ((go_at_call 9; exact Calls.quiet_of_same (keyCmp_any _ _ _ _ _ _ xs ys _ _ _ (bs_drews _ HB.out.1) (bs_drews _ HB.out.2.1) HB.out.2.2.1 HB.out.2.2.2.1)))
                    go_wp2_with fail
                    go_roundw
                    case rel =>
                      refine ⟨p + 1, by omega, by omega, by go_num, fun q h1 h2 => ?_, HR.out.2.more _⟩
                      rcases Nat.lt_or_ge q p with h | h
                      · exact HR.out.1 q h1 h
                      · obtain rfl : q = p := by omega
                        rw [HKK.out.1, HKK.out.2]
                        exact hl
                    case measure => simp [intOf]; omega
                  · go_wp2_with fail
                    go_quiet ((go_at_call 9; exact Calls.quiet_of_same (keyCmp_any _ _ _ _ _ _ xs ys _ _ _ (bs_drews _ HB.out.1) (bs_drews _ HB.out.2.1) HB.out.2.2.1 HB.out.2.2.2.1)))
                    go_wp2_with fail
                    go_meet
                    case rel => exact ⟨p, hp1, hp2, rfl, HR.out.1, HR.out.2.more _⟩
                · have i3 : ¬ (p : Int) < (n : Int) := by omega
                  go_wp2_with fail
                  go_quiet (fail)
                  go_wp2_with fail
                  go_meet
                  case rel => exact ⟨p, hp1, hp2, rfl, HR.out.1, HR.out.2.more _⟩
            case rest =>
              obtain ⟨p, hp1, hp2, rfl, hlow, hD⟩ := hcut
              obtain ⟨jd, jn, jc, jx, _, _, huj, _, ej, hjb, hjc⟩ := ns_at (ns_below (hD.below _) HN.out.1) J hJ
              cases ej
              rw [Nat.zero_add] at hjc
              replace huj : us[J]? = some (mkNV jd jn jc jx) := huj
              obtain ⟨uj, huj2⟩ : ∃ uj, uj = mkNV jd jn jc jx := ⟨_, rfl⟩
              rw [← huj2] at huj
              obtain ⟨L, hL⟩ : ∃ L, L = insL us p uj := ⟨_, rfl⟩
              obtain ⟨M, hM⟩ : ∃ M, M = insL ms p 16384 := ⟨_, rfl⟩
              have HL : Hid ((∀ q, q < p → L[q]? = us[q]? ∧ M[q]? = ms[q]?) ∧ (L[p]? = some uj ∧ M[p]? = some 16384) ∧ (∀ q, p ≤ q → L[q + 1]? = us[q]? ∧ M[q + 1]? = ms[q]?) ∧ L.length = n + 1 ∧ M.length = n + 1 ∧ es L M = Pl.ins (es us ms) p uj.xs ∧ ∀ u ∈ L, u = uj ∨ u ∈ us) := by
                have l1 : us.length = n := HU.out.1
                have l2 : ms.length = n := HS.out.2.1.1
                subst hL hM
                exact ⟨fun q hq => ⟨insL_lt us p uj q hq (by omega), insL_lt ms p 16384 q hq (by omega)⟩, ⟨insL_at us p uj (by omega), insL_at ms p 16384 (by omega)⟩, fun q hq => ⟨insL_gt us p uj q hq (by omega), insL_gt ms p 16384 q hq (by omega)⟩, by rw [insL_len us p uj (by omega), l1], by rw [insL_len ms p 16384 (by omega), l2], es_ins (by omega) (by omega), fun u hu => insL_mem hu⟩
              clear hL hM
              have HC : Hid ((∀ q, J < q → q < p → Pl.lex (Pl.keyAt (es us ms) q) (Pl.nm (es us ms) J ++ [47]) < 0) ∧ NS wc (some ⟨O, 0, none⟩) n us ∧ MS wc (some ⟨mb, moff, none⟩) n ms ∧ Below w.heap.size w wc ∧ us[J]? = some uj ∧ uj = mkNV jd jn jc jx) :=
                ⟨hlow, ns_below (hD.below _) HN.out.1, ms_below (hD.below _) HN.out.2, H6.out.1.trans (hD.below _), huj, huj2⟩
              clear hlow hD huj huj2
              have hmk1 := mk_names0 n hn
              have hmk2 := mk_modes0 n hn
              have HST : Hid (Rows2 wc ((wc.alloc (.cells (madeCells #[.slice none 0 0] (n + 1)) 30)).alloc (.cells (madeCells #[.int .u32 0] (n + 1)) 26)) L M 0 0 (.slice (some ⟨wc.heap.size, 0, none⟩) 0 (n + 1)) (.slice (some ⟨wc.heap.size + 1, 0, none⟩) 0 (n + 1))) := Rows2.start wc L M n hn
              obtain ⟨i30, ei, ez, e3, eb⟩ := info30
              obtain ⟨i26, fi, fz, f3, fb⟩ := info26
              have i9 : (0 : Int) ≤ (n : Int) + 1 := by omega
              go_wp2_with fail
              go_loopw [9, 10, 11] (fun v9 v10 i wx => ∃ q : Nat, 0 ≤ q ∧ q ≤ p ∧ i = .int .i64 q ∧ Rows2 wc wx L M (q) (q) v9 v10) (fun _ _ i _ => p - (intOf i).toNat)
              case atStart => exact ⟨0, Nat.le_refl _, Nat.zero_le _, rfl, HST.out⟩
              case round =>
                obtain ⟨q, hq1, hq2, rfl, hrw⟩ := hrel
                obtain ⟨g9, c9, rfl⟩ := hrw.2.2.2.1
                obtain ⟨g10, c10, rfl⟩ := hrw.2.2.2.2
                have HW : Hid (Rows2 wc wr L M (q) (q) (.slice (some ⟨g9, 0, none⟩) (q) c9) (.slice (some ⟨g10, 0, none⟩) (q) c10)) := hrw
                clear hrw
                by_cases hq : q < p
                · obtain ⟨d, nl, cl, xs, b, off, hs, _, e1, hbz, hc⟩ := ns_at HC.out.2.1 q (by omega)
                  cases e1
                  obtain ⟨mo, b3, off3, ht, e3', hbm, hcm⟩ := ms_at HC.out.2.2.1 q (by omega)
                  cases e3'
                  rw [Nat.zero_add] at hc
                  have hc1 : wr.cell? ⟨O, q, none⟩ = some (.slice d nl cl) := (HW.out.2.2.1.cell (p := ⟨O, q, none⟩) hbz).trans hc
                  have HQ : Hid (L[q]? = some (mkNV d nl cl xs) ∧ M[q]? = some mo ∧ wc.cell? ⟨mb, moff + q, none⟩ = some (.int .u32 mo)) := ⟨(HL.out.1 q hq).1.trans hs, (HL.out.1 q hq).2.trans ht, hcm⟩
                  clear hs ht hc hcm
                  have j1 : (0 : Int) ≤ (q : Int) := by omega
                  have j2 : (q : Int) < (p : Int) := by omega
                  have j3 : (q : Int) < (n : Int) := by omega
                  have tok1 : True := trivial
                  go_wp2_with (first
                    | (at_builtin; have _t := tok1; go_must (refine wpList_append_lies _ rfl (.tmp 87) (.tmp 92) 22 rfl wc.heap.size 30 i30 (.slice none 0 0) 1 24 Tryf.underlying22 ei ez e3 eb rfl (by decide) (.slice (some ⟨g9, 0, none⟩) (q) c9) (q) ((L.take (q)).map NV.val) rfl (HW.out.1.alloc _) ⟨wr.heap.size, 0, none⟩ 1 1 [.slice d nl cl] rfl rfl (news_one _ _ rfl) (by simp [Value.oneCell']) (by decide) (by unfold maxLen; omega) (by omega) (HW.out.2.2.1.alloc HW.out.2.2.1.size _).size _ rfl ?_); intro g2 cap2 w2 own2 grow2 at2 lt2; have HP : Hid (Rows2 wc w2 L M (q + 1) (q) (.slice (some ⟨g2, 0, none⟩) (q + 1) cap2) (.slice (some ⟨g10, 0, none⟩) (q) c10)) := Rows2.names HW.out HQ.out.1 own2 grow2; have hc2 : w2.cell? ⟨mb, moff + q, none⟩ = some (.int .u32 mo) := (HP.out.2.2.1.cell (p := ⟨mb, moff + q, none⟩) hbm).trans HQ.out.2.2; clear own2 grow2 at2 lt2 tok1)
                    | (at_builtin; go_must (refine wpList_append_lies _ rfl (.tmp 94) (.tmp 99) 23 rfl wc.heap.size 26 i26 (.int .u32 0) 1 4 Tryf.underlying23 fi fz f3 fb rfl (by decide) (.slice (some ⟨g10, 0, none⟩) (q) c10) (q) ((M.take (q)).map (Value.int .u32)) rfl (HP.out.2.1.alloc _) ⟨w2.heap.size, 0, none⟩ 1 1 [.int .u32 mo] rfl rfl (news_one _ _ rfl) (by simp [Value.oneCell']) (by decide) (by unfold maxLen; omega) (by omega) (HP.out.2.2.1.alloc HP.out.2.2.1.size _).size _ rfl ?_); intro g3 cap3 w3 own3 grow3 at2 lt2; have HP3 : Hid (Rows2 wc w3 L M (q + 1) (q + 1) (.slice (some ⟨g2, 0, none⟩) (q + 1) cap2) (.slice (some ⟨g3, 0, none⟩) (q + 1) cap3)) := Rows2.modes HP.out HQ.out.2.1 own3 grow3; clear own3 grow3 at2 lt2))
                  exact ⟨⟨q + 1, by omega, by omega, by go_num, HP3.out⟩, by simp [intOf]; omega⟩
                · obtain rfl : p = q := by omega
                  have j2 : ¬ (p : Int) < (p : Int) := by omega
                  have hj1 : wr.cell? ⟨O, J, none⟩ = some (.slice jd jn jc) := (HW.out.2.2.1.cell (p := ⟨O, J, none⟩) hjb).trans hjc
                  have j4 : (0 : Int) ≤ (J : Int) := by omega
                  have HQ : Hid (L[p]? = some (mkNV jd jn jc jx) ∧ M[p]? = some 16384) := ⟨by rw [← HC.out.2.2.2.2.2]; exact HL.out.2.1.1, HL.out.2.1.2⟩
                  have tok1 : True := trivial
                  obtain ⟨wo, hwo⟩ : ∃ wo : World, wo = wr := ⟨_, rfl⟩
                  subst hwo
                  go_wp2_with (first
                    | (at_builtin; have _t := tok1; go_must (refine wpList_append_lies _ rfl (.tmp 101) (.tmp 106) 22 rfl wc.heap.size 30 i30 (.slice none 0 0) 1 24 Tryf.underlying22 ei ez e3 eb rfl (by decide) (.slice (some ⟨g9, 0, none⟩) (p) c9) (p) ((L.take (p)).map NV.val) rfl (HW.out.1.alloc _) ⟨wo.heap.size, 0, none⟩ 1 1 [.slice jd jn jc] rfl rfl (news_one _ _ rfl) (by simp [Value.oneCell']) (by decide) (by unfold maxLen; omega) (by omega) (HW.out.2.2.1.alloc HW.out.2.2.1.size _).size _ rfl ?_); intro g2 cap2 w2 own2 grow2 at2 lt2; have HP : Hid (Rows2 wc w2 L M (p + 1) (p) (.slice (some ⟨g2, 0, none⟩) (p + 1) cap2) (.slice (some ⟨g10, 0, none⟩) (p) c10)) := Rows2.names HW.out HQ.out.1 own2 grow2; clear own2 grow2 at2 lt2 tok1)
                    | (at_builtin; go_must (refine wpList_append_lies _ rfl (.tmp 108) (.tmp 109) 23 rfl wc.heap.size 26 i26 (.int .u32 0) 1 4 Tryf.underlying23 fi fz f3 fb rfl (by decide) (.slice (some ⟨g10, 0, none⟩) (p) c10) (p) ((M.take (p)).map (Value.int .u32)) rfl (HP.out.2.1.alloc _) ⟨w2.heap.size, 0, none⟩ 1 1 [.int .u32 16384] rfl rfl (news_one _ _ rfl) (by simp [Value.oneCell']) (by decide) (by unfold maxLen; omega) (by omega) (HP.out.2.2.1.alloc HP.out.2.2.1.size _).size _ rfl ?_); intro g3 cap3 w3 own3 grow3 at2 lt2; have HP3 : Hid (Rows2 wc w3 L M (p + 1) (p + 1) (.slice (some ⟨g2, 0, none⟩) (p + 1) cap2) (.slice (some ⟨g3, 0, none⟩) (p + 1) cap3)) := Rows2.modes HP.out HQ.out.2 own3 grow3; clear own3 grow3 at2 lt2))
                  (try go_frame)
                  go_loopw [9, 10, 12] (fun v9 v10 i wx => ∃ q : Nat, p ≤ q ∧ q ≤ n ∧ i = .int .i64 q ∧ Rows2 wc wx L M (q + 1) (q + 1) v9 v10) (fun _ _ i _ => n - (intOf i).toNat)
                  case atStart => exact ⟨p, Nat.le_refl _, hp2, rfl, HP3.out⟩
                  case round =>
                    obtain ⟨q, hq1, hq2, rfl, hrw⟩ := hrel
                    obtain ⟨g9, c9, rfl⟩ := hrw.2.2.2.1
                    obtain ⟨g10, c10, rfl⟩ := hrw.2.2.2.2
                    have HW : Hid (Rows2 wc wr L M (q + 1) (q + 1) (.slice (some ⟨g9, 0, none⟩) (q + 1) c9) (.slice (some ⟨g10, 0, none⟩) (q + 1) c10)) := hrw
                    clear hrw
                    by_cases hq : q < n
                    · obtain ⟨d, nl, cl, xs, b, off, hs, _, e1, hbz, hc⟩ := ns_at HC.out.2.1 q (by omega)
                      cases e1
                      obtain ⟨mo, b3, off3, ht, e3', hbm, hcm⟩ := ms_at HC.out.2.2.1 q (by omega)
                      cases e3'
                      rw [Nat.zero_add] at hc
                      have hc1 : wr.cell? ⟨O, q, none⟩ = some (.slice d nl cl) := (HW.out.2.2.1.cell (p := ⟨O, q, none⟩) hbz).trans hc
                      have HQ : Hid (L[q + 1]? = some (mkNV d nl cl xs) ∧ M[q + 1]? = some mo ∧ wc.cell? ⟨mb, moff + q, none⟩ = some (.int .u32 mo)) := ⟨(HL.out.2.2.1 q hq1).1.trans hs, (HL.out.2.2.1 q hq1).2.trans ht, hcm⟩
                      clear hs ht hc hcm
                      have j1 : (0 : Int) ≤ (q : Int) := by omega
                      have j2 : (q : Int) < (n : Int) := by omega
                      have j3 : (q : Int) < (n : Int) := by omega
                      have tok1 : True := trivial
                      go_wp2_with (first
                        | (at_builtin; have _t := tok1; go_must (refine wpList_append_lies _ rfl (.tmp 118) (.tmp 123) 22 rfl wc.heap.size 30 i30 (.slice none 0 0) 1 24 Tryf.underlying22 ei ez e3 eb rfl (by decide) (.slice (some ⟨g9, 0, none⟩) (q + 1) c9) (q + 1) ((L.take (q + 1)).map NV.val) rfl (HW.out.1.alloc _) ⟨wr.heap.size, 0, none⟩ 1 1 [.slice d nl cl] rfl rfl (news_one _ _ rfl) (by simp [Value.oneCell']) (by decide) (by unfold maxLen; omega) (by omega) (HW.out.2.2.1.alloc HW.out.2.2.1.size _).size _ rfl ?_); intro g2 cap2 w2 own2 grow2 at2 lt2; have HP : Hid (Rows2 wc w2 L M (q + 1 + 1) (q + 1) (.slice (some ⟨g2, 0, none⟩) (q + 1 + 1) cap2) (.slice (some ⟨g10, 0, none⟩) (q + 1) c10)) := Rows2.names HW.out HQ.out.1 own2 grow2; have hc2 : w2.cell? ⟨mb, moff + q, none⟩ = some (.int .u32 mo) := (HP.out.2.2.1.cell (p := ⟨mb, moff + q, none⟩) hbm).trans HQ.out.2.2; clear own2 grow2 at2 lt2 tok1)
                        | (at_builtin; go_must (refine wpList_append_lies _ rfl (.tmp 125) (.tmp 130) 23 rfl wc.heap.size 26 i26 (.int .u32 0) 1 4 Tryf.underlying23 fi fz f3 fb rfl (by decide) (.slice (some ⟨g10, 0, none⟩) (q + 1) c10) (q + 1) ((M.take (q + 1)).map (Value.int .u32)) rfl (HP.out.2.1.alloc _) ⟨w2.heap.size, 0, none⟩ 1 1 [.int .u32 mo] rfl rfl (news_one _ _ rfl) (by simp [Value.oneCell']) (by decide) (by unfold maxLen; omega) (by omega) (HP.out.2.2.1.alloc HP.out.2.2.1.size _).size _ rfl ?_); intro g3 cap3 w3 own3 grow3 at2 lt2; have HP3 : Hid (Rows2 wc w3 L M (q + 1 + 1) (q + 1 + 1) (.slice (some ⟨g2, 0, none⟩) (q + 1 + 1) cap2) (.slice (some ⟨g3, 0, none⟩) (q + 1 + 1) cap3)) := Rows2.modes HP.out HQ.out.2.1 own3 grow3; clear own3 grow3 at2 lt2))
                      exact ⟨⟨q + 1, by omega, by omega, by go_num, HP3.out⟩, by simp [intOf]; omega⟩
                    · obtain rfl : n = q := by omega
                      have j2 : ¬ (n : Int) < (n : Int) := by omega
                      have HB8 : Hid (Below wc.heap.size wc wr) := HW.out.2.2.1
                      have hBS : ∀ u ∈ L, BS wr u.a u.n u.c u.xs ∧ u.xs ≠ [] := by
                        intro u hu
                        have hu2 : u ∈ us := by
                          rcases HL.out.2.2.2.2.2.2 u hu with h | h
                          · rw [h]
                            exact List.mem_of_getElem? HC.out.2.2.2.2.1
                          · exact h
                        obtain ⟨i, hi⟩ := List.mem_iff_getElem?.1 hu2
                        exact ⟨bs_below HB8.out (HC.out.2.1.2.2 i u hi).1, HK.out.2.2.2 u hu2⟩
                      have hNS : NS wr (some ⟨g9, 0, none⟩) (n + 1) L := ns_of_row (cap := c9) (by have h := HW.out.1; rw [List.take_of_length_le (by rw [HL.out.2.2.2.1]; exact Nat.le_refl _)] at h; exact h) (by unfold maxLen; omega) (fun u hu => (hBS u hu).1)
                      have hMS : MS wr (some ⟨g10, 0, none⟩) (n + 1) M := ms_of_row (cap := c10) (by have h := HW.out.2.1; rw [List.take_of_length_le (by rw [HL.out.2.2.2.2.1]; exact Nat.le_refl _)] at h; exact h) (by unfold maxLen; omega)
                      have hRT : Pl.RunsTo (es L M) p := by
                        have hJl : J < ms.length := by have := HS.out.2.1.1; omega
                        have hnm : Pl.nm (es us ms) J = uj.xs := nm_at HC.out.2.2.2.2.1 (List.getElem?_eq_getElem hJl)
                        have htr : Pl.tr (es us ms) J = false := by
                          rw [tr_at HC.out.2.2.2.2.1 hmj]
                          exact htj
                        rw [HL.out.2.2.2.2.2.1, ← hnm]
                        exact Pl.runs_ins HK.out.1 HK.out.2.1 hp1 (by rw [HK.out.2.2.1]; exact hp2) htr HC.out.1
                      have hFA : F.answers wr.tape := by
                        have e : wr.tape = w.tape := HB8.out.tape.trans HC.out.2.2.2.1.tape
                        rw [e]
                        exact HS.out.2.2
                      have HRUN : Hid (NS wr (some ⟨g9, 0, none⟩) (n + 1) L ∧ MS wr (some ⟨g10, 0, none⟩) (n + 1) M ∧ (∀ v ∈ L, v.xs ≠ []) ∧ Pl.RunsTo (es L M) p ∧ F.answers wr.tape) := ⟨hNS, hMS, fun v hv => (hBS v hv).2, hRT, hFA⟩
                      clear hBS hNS hMS hRT hFA
                      go_wp2_with fail
                      refine Calls.mono (run_any F (some ⟨g9, 0, none⟩) (some ⟨g10, 0, none⟩) (n + 1) c9 c10 p L M wr HRUN.out.1 HRUN.out.2.1 HRUN.out.2.2.1 (by omega) HRUN.out.2.2.2.1 HRUN.out.2.2.2.2) ?_
                      rintro e w9 ⟨rfl, hB9⟩
                      have H9 : Hid (Below w.heap.size w w9) := (HC.out.2.2.2.1.trans (HB8.out.mono HC.out.2.2.2.1.size)).trans (hB9.mono (Nat.le_trans HC.out.2.2.2.1.size HB8.out.size))
                      clear hB9
                      go_wp2_with fail
                      go_ret
                      exact ⟨by simp, H9.out⟩

      · have i2 : (n : Int) ≤ J := by omega
        go_wp2_with fail
        go_ret
        exact ⟨rfl, Below.refl _ _⟩
end Go.Proofs.Qxb6616724aFmt
