import Derived.Test.Qxb6616724aFmtFolC
import Derived.Deep.DeepCutAuto
import Derived.Deep.RegionLaw
namespace Go.Proofs.Qxb6616724aFmt
open Go.RowKit Go.Extern.Stop Go.Stop Go.Extern

set_option maxRecDepth 100000 in
set_option maxHeartbeats 64000000 in
theorem follows_slow1b (F : Interp) (w0 w : World) (T E : Nat) (ln fv : Value) (lm fu m : Int) (b off n c : Nat) (xs : List Int) (fs : List NV)
    (hB : Below w0.heap.size w0 w) (hT : TreeBox w T ln lm fv fu) (hT0 : w0.heap.size ≤ T) (hE : EBox w E (some ⟨b, off, none⟩, n, c, xs) m) (hx : BS w0 (some ⟨b, off, none⟩) n c xs) (hn : 0 < n)
    (hlast : LastOk w0 ln lm (some ⟨b, off, none⟩, n, c, xs) m fs) (hf : FilesAt w0 w fv fs) (hfl : fs.length ≤ 1048576) (hF : F.answers w.tape)
    (ht : (m == 16384) = false) (b2 : (lm != 0) = true) (b3 : (lm == 16384) = true)
    (lb lo ln' lc : Nat) (ys : List Int) (el : ln = .slice (some ⟨lb, lo, none⟩) ln' lc) (hbl : BS w0 (some ⟨lb, lo, none⟩) ln' lc ys) (hcm : Pl.cmpE ys (lm == 16384) xs (m == 16384) < 0) :
    Calls Tryf.prog 17 #[.pointer (some ⟨T, 0, none⟩), .pointer (some ⟨E, 0, none⟩)] w fun e w' => FolPost w0 T ln lm m xs fs e w' := by
  have h9 : w.cell? ⟨T, 9, none⟩ = some (.int .i64 0) := hT.cell 9
  have h3 : w.cell? ⟨T, 3, none⟩ = some ln := hT.cell 3
  have h4 : w.cell? ⟨T, 4, none⟩ = some (.int .u32 lm) := hT.cell 4
  have h10 : w.cell? ⟨T, 10, none⟩ = some fv := hT.cell 10
  have h11 : w.cell? ⟨T, 11, none⟩ = some (.int .i64 fu) := hT.cell 11
  have e0 : w.cell? ⟨E, 0, none⟩ = some (.slice (some ⟨b, off, none⟩) n c) := hE.cell.1
  have e1 : w.cell? ⟨E, 1, none⟩ = some (.int .u32 m) := hE.cell.2
  have H : Hid (TreeBox w T ln lm fv fu ∧ EBox w E (some ⟨b, off, none⟩, n, c, xs) m ∧ FilesAt w0 w fv fs ∧ BS w0 (some ⟨b, off, none⟩) n c xs ∧ Below w0.heap.size w0 w ∧ LastOk w0 ln lm (some ⟨b, off, none⟩, n, c, xs) m fs) := ⟨hT, hE, hf, hx, hB, hlast⟩
  clear hT hE hf hx hB hlast
  rw [el] at h3
  clear el
  have HLB : Hid (BS w0 (some ⟨lb, lo, none⟩) ln' lc ys ∧ Pl.cmpE ys (lm == 16384) xs (m == 16384) < 0) := ⟨hbl, hcm⟩
  have m1 : ln' ≤ lc := hbl.2.1
  have m2 : lc ≤ maxLen := hbl.2.2.1
  unfold maxLen at m2
  clear hbl hcm
  obtain ⟨fa, fc, efv⟩ := H.out.2.2.1.shape
  rw [efv] at h10
  clear efv
  go_enter Tryf.func17, Tryf.ntmps17
  go_wp2_with fail
  refine (last_any T w h9).mono ?_
  rintro e W ⟨rfl, hD⟩
  replace h3 := (hD.cell _).trans h3
  replace h4 := (hD.cell _).trans h4
  replace h9 := (hD.cell _).trans h9
  replace h10 := (hD.cell _).trans h10
  replace h11 := (hD.cell _).trans h11
  replace e0 := (hD.cell _).trans e0
  replace e1 := (hD.cell _).trans e1
  have HD : Hid (Drew w W) := hD
  clear hD
  go_wp2_with fail
  refine (isTree_any E 0 m _ e1).mono ?_
  rintro e wv ⟨rfl, hv⟩
  obtain rfl := hv.symm
  clear hv
  rw [ht]
  go_wp2_with fail
  refine (isTree_any T 3 lm _ h4).mono ?_
  rintro e wv ⟨rfl, hv⟩
  obtain rfl := hv.symm
  clear hv
  rw [b3]
  go_wp2_with fail
  have hw : Below w0.heap.size w0 W := H.out.2.2.2.2.1.trans (HD.out.below _)
  refine (compareEntries_any T 3 E 0 ⟨lb, lo, none⟩ ⟨b, off, none⟩ ln' lc n c ys xs lm m W h3 h4 e0 e1 (bs_below hw HLB.out.1) (bs_below hw H.out.2.2.2.1)).mono ?_
  rintro e WL ⟨rfl, hd2⟩
  have c0 : Pl.cmpE ys (lm == 16384) xs (m == 16384) < 0 := HLB.out.2
  rw [ht, b3] at c0
  have c1 : ¬ (0 < Pl.cmpE ys true xs false) := by omega
  have c2 : (Pl.cmpE ys true xs false == 0) = false := by
    simp
    omega
  have c3 : decide (0 < Pl.cmpE ys true xs false) = false := by simpa using c1
  have HDL : Hid (Drew w WL) := HD.out.trans hd2
  clear hd2 hw c0
  have hDD : Drew w WL := HDL.out
  have HS : Hid (TreeBox WL T ln lm fv fu ∧ EBox WL E (some ⟨b, off, none⟩, n, c, xs) m ∧ FilesAt w0 WL fv fs ∧ Below w0.heap.size w0 WL) :=
    ⟨H.out.1.of_block (by rw [hDD.heap]), by (have := H.out.2.1; unfold EBox at *; rw [hDD.heap]; exact this), H.out.2.2.1.of_heap (fun _ _ => by rw [hDD.heap]), H.out.2.2.2.2.1.trans (hDD.below _)⟩
  have HF : Hid (∀ wz : World, Below w0.heap.size w0 wz → F.answers wz.tape) := by
    intro wz hz
    have e : wz.tape = w.tape := hz.tape.trans H.out.2.2.2.2.1.tape.symm
    rw [e]
    exact hF
  have hne : NameIn w0 (some ⟨b, off, none⟩, n, c, xs) := ⟨H.out.2.2.2.1, by
    intro h0
    have := H.out.2.2.2.1.1
    replace h0 : xs = [] := h0
    rw [h0] at this
    simp at this
    omega⟩
  have HN : Hid (NameIn w0 (some ⟨b, off, none⟩, n, c, xs)) := hne
  have l3 : n ≤ c := H.out.2.2.2.1.2.1
  have l4 : c ≤ maxLen := H.out.2.2.2.1.2.2.1
  unfold maxLen at l4
  clear hDD h3 h4 e0 e1 H hF hne h9 h10 h11 HD
  go_wp2_with fail
  go_loopw [7] (fun v7 wx => v7 = .bool false ∧ ∃ (rs : List NV) (fvr : Value), rs.length ≤ fs.length ∧ Pl.pop xs false (fs.map NV.xs) = Pl.pop xs false (rs.map NV.xs) ∧ TreeBox wx T ln lm fvr fu ∧ EBox wx E (some ⟨b, off, none⟩, n, c, xs) m ∧ FilesAt w0 wx fvr rs ∧ Below w0.heap.size w0 wx) (fun _ wx => filesLen wx T)
  case atStart => exact ⟨rfl, fs, fv, Nat.le_refl _, rfl, HS.out⟩
  case round =>
    obtain ⟨rfl, rs, fvr, hrl, hpop, hTB⟩ := hrel
    have HR : Hid (TreeBox wr T ln lm fvr fu ∧ EBox wr E (some ⟨b, off, none⟩, n, c, xs) m ∧ FilesAt w0 wr fvr rs ∧ Below w0.heap.size w0 wr) := hTB
    have HP : Hid (Pl.pop xs false (fs.map NV.xs) = Pl.pop xs false (rs.map NV.xs)) := hpop
    clear hTB hpop
    have h10 : wr.cell? ⟨T, 10, none⟩ = some fvr := HR.out.1.cell 10
    have h11 : wr.cell? ⟨T, 11, none⟩ = some (.int .i64 fu) := HR.out.1.cell 11
    have z10 := HR.out.1.frozen 10
    have z11 := HR.out.1.frozen 11
    have e0 : wr.cell? ⟨E, 0, none⟩ = some (.slice (some ⟨b, off, none⟩) n c) := HR.out.2.1.cell.1
    have e1 : wr.cell? ⟨E, 1, none⟩ = some (.int .u32 m) := HR.out.2.1.cell.2
    cases rs with
    | nil =>
      obtain ⟨fa, fc, rfl⟩ := HR.out.2.2.1.shape
      replace h10 : wr.cell? ⟨T, 10, none⟩ = some (.slice fa 0 fc) := h10
      have HT : Hid (TreeBox wr T ln lm (.slice fa 0 fc) fu ∧ EBox wr E (some ⟨b, off, none⟩, n, c, xs) m ∧ FilesAt w0 wr (.slice fa 0 fc) [] ∧ Below w0.heap.size w0 wr) := HR.out
      have HQ : Hid (Pl.pop xs false (fs.map NV.xs) = (false, ([] : List NV).map NV.xs)) := HP.out.trans rfl
      go_wp2_with fail
      refine (isTree_any E 0 m _ e1).mono ?_
      rintro e wv ⟨rfl, hv⟩
      obtain rfl := hv.symm
      clear hv
      rw [ht]
      obtain ⟨i30, ei, ez, es, eb⟩ := info30
      have hET : E ≠ T := HT.out.2.1.ne HT.out.1
      have HRD : Hid (Ready w0 T E ln lm (.slice fa 0 fc) fu (some ⟨b, off, none⟩, n, c, xs) m ([] : List NV) wr) := HT.out
      by_cases hfu : fu = ((0 : Nat) : Int)
      · subst hfu
        go_wp2_with fail
        go_quiet (fail)
        go_wp2_with fail
        have RX := HRD.out.drewN nq
        have kA : ∀ (v : Int) (o : Obj), (((wr.drewN nq).setCell ⟨T, 11, none⟩ (.int .i64 v)).alloc o).cell? ⟨T, 10, none⟩ = some (.slice fa 0 fc) := fun v o => ((RX.share hT0 v).alloc o).1.cell 10
        go_region_law (first | (refine step_append_lies _ ?_ (.tmp 207) (.tmp 212) 22 ?_ w0.heap.size 30 i30 (.slice none 0 0) 1 24 Tryf.underlying22 ei ez es eb rfl (by decide) (.slice fa 0 fc) 0 (([] : List NV).reverse.map NV.val) ?_ (((RX.share hT0 _).alloc _).drew).2.2.1.1 ⟨wr.heap.size, 0, none⟩ 1 1 [.slice (some ⟨b, off, none⟩) n c] ?_ rfl (news_one _ _ (by simp)) (by simp [Value.oneCell']) (by decide) (by unfold maxLen; omega) (by omega) (((RX.share hT0 _).alloc _).drew).2.2.2.size _ rfl ?_; rfl; rfl; rfl; rfl; intro g3 cap3 w3 own3 grow3 at3 lt3; obtain ⟨k1, k2, k3⟩ := (((RX.share hT0 _).alloc _).drew).grown grow3; replace k3 : w3.cell? ⟨E, 0, none⟩ = some (.slice (some ⟨b, off, none⟩) n c) := k3) | (refine step_append_lies _ ?_ (.tmp 207) (.tmp 212) 22 ?_ w0.heap.size 30 i30 (.slice none 0 0) 1 24 Tryf.underlying22 ei ez es eb rfl (by decide) (.slice fa 0 fc) 0 (([] : List NV).reverse.map NV.val) ?_ ((RX.share hT0 _).drew.alloc _).2.2.1.1 ⟨wr.heap.size, 0, none⟩ 1 1 [.slice (some ⟨b, off, none⟩) n c] ?_ rfl (news_one _ _ (by simp)) (by simp [Value.oneCell']) (by decide) (by unfold maxLen; omega) (by omega) ((RX.share hT0 _).drew.alloc _).2.2.2.size _ rfl ?_; rfl; rfl; rfl; rfl; intro g3 cap3 w3 own3 grow3 at3 lt3; obtain ⟨k1, k2, k3⟩ := ((RX.share hT0 _).drew.alloc _).grown grow3; replace k3 : w3.cell? ⟨E, 0, none⟩ = some (.slice (some ⟨b, off, none⟩) n c) := k3) | (refine step_append_lies _ ?_ (.tmp 207) (.tmp 212) 22 ?_ w0.heap.size 30 i30 (.slice none 0 0) 1 24 Tryf.underlying22 ei ez es eb rfl (by decide) (.slice fa 0 fc) 0 (([] : List NV).reverse.map NV.val) ?_ ((RX.share hT0 _).alloc _).2.2.1.1 ⟨wr.heap.size, 0, none⟩ 1 1 [.slice (some ⟨b, off, none⟩) n c] ?_ rfl (news_one _ _ (by simp)) (by simp [Value.oneCell']) (by decide) (by unfold maxLen; omega) (by omega) ((RX.share hT0 _).alloc _).2.2.2.size _ rfl ?_; rfl; rfl; rfl; rfl; intro g3 cap3 w3 own3 grow3 at3 lt3; obtain ⟨k1, k2, k3⟩ := ((RX.share hT0 _).alloc _).grown grow3; replace k3 : w3.cell? ⟨E, 0, none⟩ = some (.slice (some ⟨b, off, none⟩) n c) := k3))
        all_goals go_wp2_with fail
        all_goals go_ret
        all_goals first
          | exact app_end (e := mkNV (some ⟨b, off, none⟩) n c xs) (rs := ([] : List NV)) HN.out rfl ht HQ.out hT0 (RX.share hT0 _).2.2.2 (RX.share hT0 _).1 (RX.share hT0 _).2.2.1 ((Below.refl _ _).alloc (Nat.le_refl _) _).drew own3 grow3 at3 rfl
          | exact app_end (e := mkNV (some ⟨b, off, none⟩) n c xs) (rs := ([] : List NV)) HN.out rfl ht HQ.out hT0 (RX.share hT0 _).2.2.2 (RX.share hT0 _).1 (RX.share hT0 _).2.2.1 ((Below.refl _ _).drew.alloc (Nat.le_refl _) _) own3 grow3 at3 rfl
      · have hfu2 : ¬ fu = ((0 : Int)) := by omega
        have hfu3 : (fu == ((0 : Int))) = false := by simpa using hfu2
        have hfu4 : (fu == ((0 : Nat) : Int)) = false := by simpa using hfu
        go_wp2_with fail
        go_quiet (fail)
        go_wp2_with fail
        have RX := HRD.out.drewN nq
        replace h10 : (wr.drewN nq).cell? ⟨T, 10, none⟩ = some (.slice fa 0 fc) := RX.1.cell 10
        replace h11 : (wr.drewN nq).cell? ⟨T, 11, none⟩ = some (.int .i64 fu) := RX.1.cell 11
        replace e0 : (wr.drewN nq).cell? ⟨E, 0, none⟩ = some (.slice (some ⟨b, off, none⟩) n c) := RX.2.1.cell.1
        replace z10 : (wr.drewN nq).frozen? ⟨T, 10, none⟩ = false := RX.1.frozen 10
        generalize wr.drewN nq = WU at *
        have kA : ∀ (o : Obj), (WU.alloc o).cell? ⟨T, 10, none⟩ = some (.slice fa 0 fc) := fun o => (RX.alloc o).1.cell 10
        go_region_law (first | (refine step_append_lies _ ?_ (.tmp 207) (.tmp 212) 22 ?_ w0.heap.size 30 i30 (.slice none 0 0) 1 24 Tryf.underlying22 ei ez es eb rfl (by decide) (.slice fa 0 fc) 0 (([] : List NV).reverse.map NV.val) ?_ ((RX.alloc _).drew).2.2.1.1 ⟨WU.heap.size, 0, none⟩ 1 1 [.slice (some ⟨b, off, none⟩) n c] ?_ rfl (news_one _ _ (by simp)) (by simp [Value.oneCell']) (by decide) (by unfold maxLen; omega) (by omega) ((RX.alloc _).drew).2.2.2.size _ rfl ?_; rfl; rfl; rfl; rfl; intro g3 cap3 w3 own3 grow3 at3 lt3; obtain ⟨k1, k2, k3⟩ := ((RX.alloc _).drew).grown grow3; replace k3 : w3.cell? ⟨E, 0, none⟩ = some (.slice (some ⟨b, off, none⟩) n c) := k3) | (refine step_append_lies _ ?_ (.tmp 207) (.tmp 212) 22 ?_ w0.heap.size 30 i30 (.slice none 0 0) 1 24 Tryf.underlying22 ei ez es eb rfl (by decide) (.slice fa 0 fc) 0 (([] : List NV).reverse.map NV.val) ?_ (RX.drew.alloc _).2.2.1.1 ⟨WU.heap.size, 0, none⟩ 1 1 [.slice (some ⟨b, off, none⟩) n c] ?_ rfl (news_one _ _ (by simp)) (by simp [Value.oneCell']) (by decide) (by unfold maxLen; omega) (by omega) (RX.drew.alloc _).2.2.2.size _ rfl ?_; rfl; rfl; rfl; rfl; intro g3 cap3 w3 own3 grow3 at3 lt3; obtain ⟨k1, k2, k3⟩ := (RX.drew.alloc _).grown grow3; replace k3 : w3.cell? ⟨E, 0, none⟩ = some (.slice (some ⟨b, off, none⟩) n c) := k3) | (refine step_append_lies _ ?_ (.tmp 207) (.tmp 212) 22 ?_ w0.heap.size 30 i30 (.slice none 0 0) 1 24 Tryf.underlying22 ei ez es eb rfl (by decide) (.slice fa 0 fc) 0 (([] : List NV).reverse.map NV.val) ?_ (RX.alloc _).2.2.1.1 ⟨WU.heap.size, 0, none⟩ 1 1 [.slice (some ⟨b, off, none⟩) n c] ?_ rfl (news_one _ _ (by simp)) (by simp [Value.oneCell']) (by decide) (by unfold maxLen; omega) (by omega) (RX.alloc _).2.2.2.size _ rfl ?_; rfl; rfl; rfl; rfl; intro g3 cap3 w3 own3 grow3 at3 lt3; obtain ⟨k1, k2, k3⟩ := (RX.alloc _).grown grow3; replace k3 : w3.cell? ⟨E, 0, none⟩ = some (.slice (some ⟨b, off, none⟩) n c) := k3))
        all_goals go_wp2_with fail
        all_goals go_ret
        all_goals first
          | exact app_end (e := mkNV (some ⟨b, off, none⟩) n c xs) (rs := ([] : List NV)) HN.out rfl ht HQ.out hT0 RX.2.2.2 RX.1 RX.2.2.1 ((Below.refl _ _).alloc (Nat.le_refl _) _).drew own3 grow3 at3 rfl
          | exact app_end (e := mkNV (some ⟨b, off, none⟩) n c xs) (rs := ([] : List NV)) HN.out rfl ht HQ.out hT0 RX.2.2.2 RX.1 RX.2.2.1 ((Below.refl _ _).drew.alloc (Nat.le_refl _) _) own3 grow3 at3 rfl
    | cons f r =>
      obtain ⟨g, cap, rfl, hgc, hr1, hr2, hfn, hFr⟩ := HR.out.2.2.1.top
      obtain ⟨fb, fo, fl, fc, ys, rfl, hfl, hbf, hyf⟩ := nameIn_some hfn
      have f3 : fl ≤ fc := hbf.2.1
      have f4 : fc ≤ maxLen := hbf.2.2.1
      unfold maxLen at f4 hr2
      have HM : Hid (filesLen wr T = r.length + 1) := filesLen_of h10
      have hrl2 : r.length + 1 ≤ fs.length := hrl
      have HX : Hid (BS w0 (some ⟨fb, fo, none⟩) fl fc ys ∧ FilesAt w0 wr (.slice (some ⟨g, 0, none⟩) r.length cap) r) := ⟨hbf, hFr⟩
      clear hbf hFr hfn hyf
      replace hgc : wr.cell? ⟨g, r.length, none⟩ = some (.slice (some ⟨fb, fo, none⟩) fl fc) := hgc
      have i1 : IntKind.i64.wrap ((r.length + 1 : Nat) - 1 : Int) = (r.length : Int) := by rw [IntKind.wrap_i64]; omega
      have i2 : IntKind.i64.wrap ((r.length : Int) + 1 - 1) = (r.length : Int) := by rw [IntKind.wrap_i64]; omega
      have i3 : (0 : Int) < (r.length : Int) + 1 := by omega
      have i4 : (r.length : Int) < (r.length : Int) + 1 := by omega
      have i5 : (0 : Int) ≤ (r.length : Int) := by omega
      have i6 : (r.length : Int) ≤ cap := by omega
      go_wp2_with fail
      go_quiet (fail)
      go_wp2_with fail
      have HR2 : Hid (TreeBox (wr.drewN nq) T ln lm (.slice (some ⟨g, 0, none⟩) (r.length + 1) cap) fu ∧ EBox (wr.drewN nq) E (some ⟨b, off, none⟩, n, c, xs) m ∧ FilesAt w0 (wr.drewN nq) (.slice (some ⟨g, 0, none⟩) r.length cap) r ∧ Below w0.heap.size w0 (wr.drewN nq)) :=
        ⟨HR.out.1.of_block rfl, HR.out.2.1, HX.out.2.of_heap (fun _ _ => rfl), HR.out.2.2.2.trans (Drew.below (w' := wr.drewN nq) ⟨_, rfl⟩ _)⟩
      have HT : Hid (TreeBox (wr.drewN nq) T ln lm (.slice (some ⟨g, 0, none⟩) (r.length + 1) cap) fu ∧ EBox (wr.drewN nq) E (some ⟨b, off, none⟩, n, c, xs) m ∧ FilesAt w0 (wr.drewN nq) (.slice (some ⟨g, 0, none⟩) (r.length + 1) cap) (mkNV (some ⟨fb, fo, none⟩) fl fc ys :: r) ∧ Below w0.heap.size w0 (wr.drewN nq)) :=
        ⟨HR2.out.1, HR2.out.2.1, HR.out.2.2.1.of_heap (fun _ _ => rfl), HR2.out.2.2.2⟩
      replace h10 : (wr.drewN nq).cell? ⟨T, 10, none⟩ = some (.slice (some ⟨g, 0, none⟩) (r.length + 1) cap) := h10
      replace h11 : (wr.drewN nq).cell? ⟨T, 11, none⟩ = _ := h11
      replace e0 : (wr.drewN nq).cell? ⟨E, 0, none⟩ = _ := e0
      replace e1 : (wr.drewN nq).cell? ⟨E, 1, none⟩ = _ := e1
      replace z10 : (wr.drewN nq).frozen? ⟨T, 10, none⟩ = _ := z10
      replace z11 : (wr.drewN nq).frozen? ⟨T, 11, none⟩ = _ := z11
      have HB : Hid (BS (wr.drewN nq) (some ⟨b, off, none⟩) n c xs ∧ BS (wr.drewN nq) (some ⟨fb, fo, none⟩) fl fc ys ∧ xs.length = n ∧ ys.length = fl) := ⟨bs_below HR2.out.2.2.2 HN.out.1, bs_below HR2.out.2.2.2 HX.out.1, HN.out.1.1, HX.out.1.1⟩
      clear HR hgc HX
      generalize wr.drewN nq = W2 at *
      refine (isTree_any E 0 m _ e1).mono ?_
      rintro e wv ⟨rfl, hv⟩
      obtain rfl := hv.symm
      clear hv
      rw [ht]
      --MARK
      by_cases hl : fl < n
      · have hl' : (fl : Int) < n := by omega
        have hge : fl ≤ n := by omega
        go_wp2_with fail
        refine (hasPrefix_any b off n c fb fo fl fc xs ys _ HB.out.1 HB.out.2.1 hge).mono ?_
        rintro e wv ⟨rfl, hv⟩
        obtain rfl := hv.symm
        clear hv
        cases hpf : (xs.take fl == ys) with
        | false =>
          go_wp2_with fail
          go_region
          go_wp2_with fail
          obtain ⟨hk1, hk2⟩ := pop_roundD hrl hT0 HR2.out.2.2.2 HR2.out.1 HR2.out.2.1 HR2.out.2.2.1 HM.out HP.out (by rfl) (under_apart HB.out.2.2.2 hpf)
          exact ⟨⟨rfl, hk1⟩, hk2⟩
        | true =>
          obtain ⟨x, b', off', hxv, hx2, ex, hx4, hx5⟩ := bs_at HB.out.1 fl hl
          cases ex
          have hxd : xs.getD fl 0 = x := by simp [List.getD, hxv]
          have hxv2 : Hid (xs[fl]? = some x) := hxv
          clear hxv hx4
          have j1 : (0 : Int) ≤ (fl : Int) := by omega
          have hpe : ys = xs.take fl := by
            have := beq_iff_eq.1 hpf
            exact this.symm
          have HPE : Hid (ys = xs.take fl ∧ xs.getD fl 0 = x) := ⟨hpe, hxd⟩
          clear hpe hxd hxv2
          by_cases h47 : x < 47
          · have h47' : decide (x < 47) = true := by simpa using h47
            have HQ : Hid (Pl.pop xs false (fs.map NV.xs) = (false, (mkNV (some ⟨fb, fo, none⟩) fl fc ys :: r).map NV.xs)) := HP.out.trans (pop_stays (by rfl) (under_yes HB.out.2.2.1 HB.out.2.2.2 hl HPE.out.1 HPE.out.2 h47))
            go_wp2_with fail
            refine (isTree_any E 0 m _ e1).mono ?_
            rintro e wv ⟨rfl, hv⟩
            obtain rfl := hv.symm
            clear hv
            rw [ht]
            obtain ⟨i30, ei, ez, es, eb⟩ := info30
            have hET : E ≠ T := HT.out.2.1.ne HT.out.1
            have HRD : Hid (Ready w0 T E ln lm (.slice (some ⟨g, 0, none⟩) (r.length + 1) cap) fu (some ⟨b, off, none⟩, n, c, xs) m (mkNV (some ⟨fb, fo, none⟩) fl fc ys :: r) W2) := HT.out
            by_cases hfu : fu = (((r.length + 1) : Nat) : Int)
            · subst hfu
              go_wp2_with fail
              go_quiet (fail)
              go_wp2_with fail
              have RX := HRD.out.drewN nq
              have kA : ∀ (v : Int) (o : Obj), (((W2.drewN nq).setCell ⟨T, 11, none⟩ (.int .i64 v)).alloc o).cell? ⟨T, 10, none⟩ = some (.slice (some ⟨g, 0, none⟩) (r.length + 1) cap) := fun v o => ((RX.share hT0 v).alloc o).1.cell 10
              go_region_law (first | (refine step_append_lies _ ?_ (.tmp 207) (.tmp 212) 22 ?_ w0.heap.size 30 i30 (.slice none 0 0) 1 24 Tryf.underlying22 ei ez es eb rfl (by decide) (.slice (some ⟨g, 0, none⟩) (r.length + 1) cap) (r.length + 1) ((mkNV (some ⟨fb, fo, none⟩) fl fc ys :: r).reverse.map NV.val) ?_ (((RX.share hT0 _).alloc _).drew).2.2.1.1 ⟨W2.heap.size, 0, none⟩ 1 1 [.slice (some ⟨b, off, none⟩) n c] ?_ rfl (news_one _ _ (by simp)) (by simp [Value.oneCell']) (by decide) (by unfold maxLen; omega) (by omega) (((RX.share hT0 _).alloc _).drew).2.2.2.size _ rfl ?_; rfl; rfl; rfl; rfl; intro g3 cap3 w3 own3 grow3 at3 lt3; obtain ⟨k1, k2, k3⟩ := (((RX.share hT0 _).alloc _).drew).grown grow3; replace k3 : w3.cell? ⟨E, 0, none⟩ = some (.slice (some ⟨b, off, none⟩) n c) := k3) | (refine step_append_lies _ ?_ (.tmp 207) (.tmp 212) 22 ?_ w0.heap.size 30 i30 (.slice none 0 0) 1 24 Tryf.underlying22 ei ez es eb rfl (by decide) (.slice (some ⟨g, 0, none⟩) (r.length + 1) cap) (r.length + 1) ((mkNV (some ⟨fb, fo, none⟩) fl fc ys :: r).reverse.map NV.val) ?_ ((RX.share hT0 _).drew.alloc _).2.2.1.1 ⟨W2.heap.size, 0, none⟩ 1 1 [.slice (some ⟨b, off, none⟩) n c] ?_ rfl (news_one _ _ (by simp)) (by simp [Value.oneCell']) (by decide) (by unfold maxLen; omega) (by omega) ((RX.share hT0 _).drew.alloc _).2.2.2.size _ rfl ?_; rfl; rfl; rfl; rfl; intro g3 cap3 w3 own3 grow3 at3 lt3; obtain ⟨k1, k2, k3⟩ := ((RX.share hT0 _).drew.alloc _).grown grow3; replace k3 : w3.cell? ⟨E, 0, none⟩ = some (.slice (some ⟨b, off, none⟩) n c) := k3) | (refine step_append_lies _ ?_ (.tmp 207) (.tmp 212) 22 ?_ w0.heap.size 30 i30 (.slice none 0 0) 1 24 Tryf.underlying22 ei ez es eb rfl (by decide) (.slice (some ⟨g, 0, none⟩) (r.length + 1) cap) (r.length + 1) ((mkNV (some ⟨fb, fo, none⟩) fl fc ys :: r).reverse.map NV.val) ?_ ((RX.share hT0 _).alloc _).2.2.1.1 ⟨W2.heap.size, 0, none⟩ 1 1 [.slice (some ⟨b, off, none⟩) n c] ?_ rfl (news_one _ _ (by simp)) (by simp [Value.oneCell']) (by decide) (by unfold maxLen; omega) (by omega) ((RX.share hT0 _).alloc _).2.2.2.size _ rfl ?_; rfl; rfl; rfl; rfl; intro g3 cap3 w3 own3 grow3 at3 lt3; obtain ⟨k1, k2, k3⟩ := ((RX.share hT0 _).alloc _).grown grow3; replace k3 : w3.cell? ⟨E, 0, none⟩ = some (.slice (some ⟨b, off, none⟩) n c) := k3))
              all_goals go_wp2_with fail
              all_goals go_ret
              all_goals first
                | exact app_end (e := mkNV (some ⟨b, off, none⟩) n c xs) (rs := (mkNV (some ⟨fb, fo, none⟩) fl fc ys :: r)) HN.out rfl ht HQ.out hT0 (RX.share hT0 _).2.2.2 (RX.share hT0 _).1 (RX.share hT0 _).2.2.1 ((Below.refl _ _).alloc (Nat.le_refl _) _).drew own3 grow3 at3 rfl
                | exact app_end (e := mkNV (some ⟨b, off, none⟩) n c xs) (rs := (mkNV (some ⟨fb, fo, none⟩) fl fc ys :: r)) HN.out rfl ht HQ.out hT0 (RX.share hT0 _).2.2.2 (RX.share hT0 _).1 (RX.share hT0 _).2.2.1 ((Below.refl _ _).drew.alloc (Nat.le_refl _) _) own3 grow3 at3 rfl
            · have hfu2 : ¬ fu = ((r.length : Int) + 1) := by omega
              have hfu3 : (fu == ((r.length : Int) + 1)) = false := by simpa using hfu2
              have hfu4 : (fu == (((r.length + 1) : Nat) : Int)) = false := by simpa using hfu
              go_wp2_with fail
              go_quiet (fail)
              go_wp2_with fail
              have RX := HRD.out.drewN nq
              replace h10 : (W2.drewN nq).cell? ⟨T, 10, none⟩ = some (.slice (some ⟨g, 0, none⟩) (r.length + 1) cap) := RX.1.cell 10
              replace h11 : (W2.drewN nq).cell? ⟨T, 11, none⟩ = some (.int .i64 fu) := RX.1.cell 11
              replace e0 : (W2.drewN nq).cell? ⟨E, 0, none⟩ = some (.slice (some ⟨b, off, none⟩) n c) := RX.2.1.cell.1
              replace z10 : (W2.drewN nq).frozen? ⟨T, 10, none⟩ = false := RX.1.frozen 10
              generalize W2.drewN nq = WU at *
              have kA : ∀ (o : Obj), (WU.alloc o).cell? ⟨T, 10, none⟩ = some (.slice (some ⟨g, 0, none⟩) (r.length + 1) cap) := fun o => (RX.alloc o).1.cell 10
              go_region_law (first | (refine step_append_lies _ ?_ (.tmp 207) (.tmp 212) 22 ?_ w0.heap.size 30 i30 (.slice none 0 0) 1 24 Tryf.underlying22 ei ez es eb rfl (by decide) (.slice (some ⟨g, 0, none⟩) (r.length + 1) cap) (r.length + 1) ((mkNV (some ⟨fb, fo, none⟩) fl fc ys :: r).reverse.map NV.val) ?_ ((RX.alloc _).drew).2.2.1.1 ⟨WU.heap.size, 0, none⟩ 1 1 [.slice (some ⟨b, off, none⟩) n c] ?_ rfl (news_one _ _ (by simp)) (by simp [Value.oneCell']) (by decide) (by unfold maxLen; omega) (by omega) ((RX.alloc _).drew).2.2.2.size _ rfl ?_; rfl; rfl; rfl; rfl; intro g3 cap3 w3 own3 grow3 at3 lt3; obtain ⟨k1, k2, k3⟩ := ((RX.alloc _).drew).grown grow3; replace k3 : w3.cell? ⟨E, 0, none⟩ = some (.slice (some ⟨b, off, none⟩) n c) := k3) | (refine step_append_lies _ ?_ (.tmp 207) (.tmp 212) 22 ?_ w0.heap.size 30 i30 (.slice none 0 0) 1 24 Tryf.underlying22 ei ez es eb rfl (by decide) (.slice (some ⟨g, 0, none⟩) (r.length + 1) cap) (r.length + 1) ((mkNV (some ⟨fb, fo, none⟩) fl fc ys :: r).reverse.map NV.val) ?_ (RX.drew.alloc _).2.2.1.1 ⟨WU.heap.size, 0, none⟩ 1 1 [.slice (some ⟨b, off, none⟩) n c] ?_ rfl (news_one _ _ (by simp)) (by simp [Value.oneCell']) (by decide) (by unfold maxLen; omega) (by omega) (RX.drew.alloc _).2.2.2.size _ rfl ?_; rfl; rfl; rfl; rfl; intro g3 cap3 w3 own3 grow3 at3 lt3; obtain ⟨k1, k2, k3⟩ := (RX.drew.alloc _).grown grow3; replace k3 : w3.cell? ⟨E, 0, none⟩ = some (.slice (some ⟨b, off, none⟩) n c) := k3) | (refine step_append_lies _ ?_ (.tmp 207) (.tmp 212) 22 ?_ w0.heap.size 30 i30 (.slice none 0 0) 1 24 Tryf.underlying22 ei ez es eb rfl (by decide) (.slice (some ⟨g, 0, none⟩) (r.length + 1) cap) (r.length + 1) ((mkNV (some ⟨fb, fo, none⟩) fl fc ys :: r).reverse.map NV.val) ?_ (RX.alloc _).2.2.1.1 ⟨WU.heap.size, 0, none⟩ 1 1 [.slice (some ⟨b, off, none⟩) n c] ?_ rfl (news_one _ _ (by simp)) (by simp [Value.oneCell']) (by decide) (by unfold maxLen; omega) (by omega) (RX.alloc _).2.2.2.size _ rfl ?_; rfl; rfl; rfl; rfl; intro g3 cap3 w3 own3 grow3 at3 lt3; obtain ⟨k1, k2, k3⟩ := (RX.alloc _).grown grow3; replace k3 : w3.cell? ⟨E, 0, none⟩ = some (.slice (some ⟨b, off, none⟩) n c) := k3))
              all_goals go_wp2_with fail
              all_goals go_ret
              all_goals first
                | exact app_end (e := mkNV (some ⟨b, off, none⟩) n c xs) (rs := (mkNV (some ⟨fb, fo, none⟩) fl fc ys :: r)) HN.out rfl ht HQ.out hT0 RX.2.2.2 RX.1 RX.2.2.1 ((Below.refl _ _).alloc (Nat.le_refl _) _).drew own3 grow3 at3 rfl
                | exact app_end (e := mkNV (some ⟨b, off, none⟩) n c xs) (rs := (mkNV (some ⟨fb, fo, none⟩) fl fc ys :: r)) HN.out rfl ht HQ.out hT0 RX.2.2.2 RX.1 RX.2.2.1 ((Below.refl _ _).drew.alloc (Nat.le_refl _) _) own3 grow3 at3 rfl
          · have h47' : decide (x < 47) = false := by simpa using h47
            go_wp2_with fail
            go_region
            go_wp2_with fail
            obtain ⟨hk1, hk2⟩ := pop_roundD hrl hT0 HR2.out.2.2.2 HR2.out.1 HR2.out.2.1 HR2.out.2.2.1 HM.out HP.out (by rfl) (under_high HB.out.2.2.2 HPE.out.2 (by omega))
            exact ⟨⟨rfl, hk1⟩, hk2⟩
      · have hl' : ¬ (fl : Int) < n := by omega
        go_wp2_with fail
        go_region
        go_wp2_with fail
        obtain ⟨hk1, hk2⟩ := pop_roundD hrl hT0 HR2.out.2.2.2 HR2.out.1 HR2.out.2.1 HR2.out.2.2.1 HM.out HP.out (by rfl) (under_short HB.out.2.2.1 HB.out.2.2.2 (by omega))
        exact ⟨⟨rfl, hk1⟩, hk2⟩
end Go.Proofs.Qxb6616724aFmt
