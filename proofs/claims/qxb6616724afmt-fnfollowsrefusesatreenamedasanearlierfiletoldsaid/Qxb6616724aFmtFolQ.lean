import Derived.Test.Qxb6616724aFmtFolC
import Derived.Deep.DeepCutAuto
import Derived.Deep.RegionLaw
namespace Go.Proofs.Qxb6616724aFmt
open Go.RowKit Go.Extern.Stop Go.Stop Go.Extern

set_option maxRecDepth 100000 in
set_option maxHeartbeats 64000000 in
theorem follows_quick (w0 w : World) (T E : Nat) (ln fv : Value) (lm fu m : Int) (b off n c : Nat) (xs : List Int) (fs : List NV)
    (hB : Below w0.heap.size w0 w) (hT : TreeBox w T ln lm fv fu) (hT0 : w0.heap.size ≤ T) (hE : EBox w E (some ⟨b, off, none⟩, n, c, xs) m) (hx : BS w0 (some ⟨b, off, none⟩) n c xs) (hn : 0 < n)
    (hlast : LastOk w0 ln lm (some ⟨b, off, none⟩, n, c, xs) m fs) (hf : FilesAt w0 w fv fs) (hfl : fs.length ≤ 1048576)
    (b1 : (m == 16384) = false) (b2 : ¬ lm = 0) (b3 : (lm == 16384) = false) (l f : NV) (el : ln = l.val) (hl : NameIn w0 l) (efs : fs = [f]) (hfy : f.xs = l.xs)
    (hzz : Pl.lex (l.xs.take (min l.xs.length xs.length)) (xs.take (min l.xs.length xs.length)) < 0) :
    Calls Tryf.prog 17 #[.pointer (some ⟨T, 0, none⟩), .pointer (some ⟨E, 0, none⟩)] w fun e w' => FolPost w0 T ln lm m xs fs e w' := by
  have h9 : w.cell? ⟨T, 9, none⟩ = some (.int .i64 0) := hT.cell 9
  have h3 : w.cell? ⟨T, 3, none⟩ = some ln := hT.cell 3
  have h4 : w.cell? ⟨T, 4, none⟩ = some (.int .u32 lm) := hT.cell 4
  have h10 : w.cell? ⟨T, 10, none⟩ = some fv := hT.cell 10
  have h11 : w.cell? ⟨T, 11, none⟩ = some (.int .i64 fu) := hT.cell 11
  have e0 : w.cell? ⟨E, 0, none⟩ = some (.slice (some ⟨b, off, none⟩) n c) := hE.cell.1
  have e1 : w.cell? ⟨E, 1, none⟩ = some (.int .u32 m) := hE.cell.2
  have H : Hid (TreeBox w T ln lm fv fu ∧ EBox w E (some ⟨b, off, none⟩, n, c, xs) m ∧ FilesAt w0 w fv fs ∧ BS w0 (some ⟨b, off, none⟩) n c xs ∧ Below w0.heap.size w0 w ∧ LastOk w0 ln lm (some ⟨b, off, none⟩, n, c, xs) m fs) := ⟨hT, hE, hf, hx, hB, hlast⟩
  clear hT hE hf hx hB hlast
  subst efs
  obtain ⟨lb, lo, ln', lc, ys, rfl, hln, hbl, hly⟩ := nameIn_some hl
  subst el
  have HZZ : Hid (Pl.lex (ys.take (min ys.length xs.length)) (xs.take (min ys.length xs.length)) < 0 ∧ f.xs = ys) := ⟨hzz, hfy⟩
  clear hzz hfy
  go_enter Tryf.func17, Tryf.ntmps17
  go_wp2_with fail
  refine (last_any T w h9).mono ?_
  rintro e W ⟨rfl, hD⟩
  replace h3 := (hD.cell _).trans h3
  replace h4 := (hD.cell _).trans h4
  replace h9 := (hD.cell _).trans h9
  replace h10 := (hD.cell _).trans h10
  replace h11 := (hD.cell _).trans h11
  replace e0 := (hD.cell _).trans e0
  replace e1 := (hD.cell _).trans e1
  have HD : Hid (Drew w W) := hD
  clear hD
  obtain ⟨g, cap, efv, hg0, zg⟩ : ∃ g cap, fv = .slice (some ⟨g, 0, none⟩) 1 cap ∧ W.cell? ⟨g, 0, none⟩ = some f.val ∧ W.frozen? ⟨g, 0, none⟩ = false := by
    rcases H.out.2.2.1.1.2 with ⟨_, h⟩ | ⟨g, cap, cur, h1, _, h2, h3, _, h5, h6⟩
    · simp at h
    · refine ⟨g, cap, h1, ?_, ?_⟩
      · rw [HD.out.cell]
        simp at h6
        simp [World.cell?, h2]
        cases hc : cur.toList with
        | nil => rw [hc] at h6; simp at h6
        | cons x t =>
          rw [hc] at h6
          simp at h6
          rw [← h6]
          have : cur.toList[0]? = some x := by rw [hc]; rfl
          simpa using this
      · rw [HD.out.froz]
        simp [World.frozen?, h2]
  subst efv
  have hw : Below w0.heap.size w0 W := H.out.2.2.2.2.1.trans (HD.out.below _)
  have z10 : W.frozen? ⟨T, 10, none⟩ = false := (HD.out.froz _).trans (H.out.1.frozen 10)
  have z11 : W.frozen? ⟨T, 11, none⟩ = false := (HD.out.froz _).trans (H.out.1.frozen 11)
  have l1 : ln' ≤ lc := hbl.2.1
  have l2 : lc ≤ maxLen := hbl.2.2.1
  have l3 : n ≤ c := H.out.2.2.2.1.2.1
  have l4 : c ≤ maxLen := H.out.2.2.2.1.2.2.1
  unfold maxLen at l2 l4
  replace h3 : W.cell? ⟨T, 3, none⟩ = some (.slice (some ⟨lb, lo, none⟩) ln' lc) := h3
  have HX : Hid (BS W (some ⟨b, off, none⟩) n c xs ∧ BS W (some ⟨lb, lo, none⟩) ln' lc ys) := ⟨bs_below hw H.out.2.2.2.1, bs_below hw hbl⟩
  have HY : Hid (f.xs = ys ∧ Below w0.heap.size w0 W) := ⟨HZZ.out.2, hw⟩
  clear hbl hw hly hl
  have b2' : (lm != 0) = true := by simpa using b2
  go_wp2_with fail
  refine (isTree_any E 0 m _ e1).mono ?_
  rintro e wv ⟨rfl, hv⟩
  obtain rfl := hv.symm
  clear hv
  rw [b1]
  go_wp2_with fail
  refine (isTree_any T 3 lm _ h4).mono ?_
  rintro e wv ⟨rfl, hv⟩
  obtain rfl := hv.symm
  clear hv
  rw [b3]
  rcases Int.lt_or_le (n : Int) ln' with hlt | hlt
  · skip
    have HQ : Hid (BS W (some ⟨lb, lo, none⟩) n lc (ys.take n) ∧ BS W (some ⟨b, off, none⟩) n c (xs.take n)) := ⟨bs_take HX.out.2 (by omega), bs_take HX.out.1 (by omega)⟩
    have q1 : (n : Int) ≤ c := by omega
    have q2 : (n : Int) ≤ lc := by omega
    have HE : Hid (n = min ys.length xs.length) := by
      show n = min ys.length xs.length
      rw [HX.out.1.1, HX.out.2.1]
      omega
    go_wp2_with fail
    go_quiet (fail)
    go_wp2_with fail
    have HD2 : Hid (Drew W (W.drewN nq)) := ⟨_, rfl⟩
    have HQ2 : Hid (BS (W.drewN nq) (some ⟨lb, lo, none⟩) n lc (ys.take n) ∧ BS (W.drewN nq) (some ⟨b, off, none⟩) n c (xs.take n)) := ⟨bs_drews _ HQ.out.1, bs_drews _ HQ.out.2⟩
    replace h3 : (W.drewN nq).cell? ⟨T, 3, none⟩ = some (.slice (some ⟨lb, lo, none⟩) ln' lc) := h3
    replace h10 : (W.drewN nq).cell? ⟨T, 10, none⟩ = _ := h10
    replace h11 : (W.drewN nq).cell? ⟨T, 11, none⟩ = _ := h11
    replace e0 : (W.drewN nq).cell? ⟨E, 0, none⟩ = _ := e0
    replace e1 : (W.drewN nq).cell? ⟨E, 1, none⟩ = _ := e1
    replace hg0 : (W.drewN nq).cell? ⟨g, 0, none⟩ = _ := hg0
    replace zg : (W.drewN nq).frozen? ⟨g, 0, none⟩ = _ := zg
    replace z10 : (W.drewN nq).frozen? ⟨T, 10, none⟩ = _ := z10
    replace z11 : (W.drewN nq).frozen? ⟨T, 11, none⟩ = _ := z11
    clear HQ h4 h9
    generalize W.drewN nq = W2 at *
    have hz : Pl.lex (ys.take n) (xs.take n) < 0 := by
      have h := HZZ.out.1
      rw [← HE.out] at h
      exact h
    · have hd : decide (Pl.lex (ys.take n) (xs.take n) < 0) = true := by simpa using hz
      go_quiet ((go_at_call 20; exact Calls.quiet_of_same (compare_any _ _ _ _ _ _ (ys.take n) (xs.take n) _ (bs_drews _ HQ2.out.1) (bs_drews _ HQ2.out.2))))
      go_wp2_with fail
      replace HD2 : Hid (Drew W (W2.drewN nq)) := HD2.out.more _
      replace h10 : (W2.drewN nq).cell? ⟨T, 10, none⟩ = _ := h10
      replace h11 : (W2.drewN nq).cell? ⟨T, 11, none⟩ = _ := h11
      replace e0 : (W2.drewN nq).cell? ⟨E, 0, none⟩ = _ := e0
      replace hg0 : (W2.drewN nq).cell? ⟨g, 0, none⟩ = _ := hg0
      replace zg : (W2.drewN nq).frozen? ⟨g, 0, none⟩ = _ := zg
      replace z10 : (W2.drewN nq).frozen? ⟨T, 10, none⟩ = _ := z10
      replace z11 : (W2.drewN nq).frozen? ⟨T, 11, none⟩ = _ := z11
      clear HQ2 h3 e1 hd
      generalize W2.drewN nq = W3 at *
      rcases Int.lt_or_le fu 1 with hfu | hfu
      · go_region
        go_wp2_with fail
        go_ret
        refine FolPost.drew (fast_end w0 W3 T g cap n _ lm fu m _ xs ys (some ⟨b, off, none⟩, n, c, xs) f ⟨H.out.2.2.2.1, ?_⟩ rfl HY.out.1 b1 ?_ hT0 ?_ ?_ HE.out hz)
        · intro h0
          have := H.out.2.2.2.1.1
          replace h0 : xs = [] := h0
          rw [h0] at this
          simp at this
          omega
        · exact H.out.2.2.2.2.1.trans ((HD.out.trans HD2.out).below _)
        · refine H.out.1.of_block ?_
          rw [(HD.out.trans HD2.out).heap]
        · refine H.out.2.2.1.of_heap (fun g _ => ?_)
          rw [(HD.out.trans HD2.out).heap]
      · go_region
        go_wp2_with fail
        go_ret
        refine FolPost.drew (fast_end w0 W3 T g cap n _ lm fu m _ xs ys (some ⟨b, off, none⟩, n, c, xs) f ⟨H.out.2.2.2.1, ?_⟩ rfl HY.out.1 b1 ?_ hT0 ?_ ?_ HE.out hz)
        · intro h0
          have := H.out.2.2.2.1.1
          replace h0 : xs = [] := h0
          rw [h0] at this
          simp at this
          omega
        · exact H.out.2.2.2.2.1.trans ((HD.out.trans HD2.out).below _)
        · refine H.out.1.of_block ?_
          rw [(HD.out.trans HD2.out).heap]
        · refine H.out.2.2.1.of_heap (fun g _ => ?_)
          rw [(HD.out.trans HD2.out).heap]
  · skip
    have HQ : Hid (BS W (some ⟨lb, lo, none⟩) ln' lc (ys.take ln') ∧ BS W (some ⟨b, off, none⟩) ln' c (xs.take ln')) := ⟨bs_take HX.out.2 (by omega), bs_take HX.out.1 (by omega)⟩
    have q1 : (ln' : Int) ≤ c := by omega
    have q2 : (ln' : Int) ≤ lc := by omega
    have HE : Hid (ln' = min ys.length xs.length) := by
      show ln' = min ys.length xs.length
      rw [HX.out.1.1, HX.out.2.1]
      omega
    go_wp2_with fail
    go_quiet (fail)
    go_wp2_with fail
    have HD2 : Hid (Drew W (W.drewN nq)) := ⟨_, rfl⟩
    have HQ2 : Hid (BS (W.drewN nq) (some ⟨lb, lo, none⟩) ln' lc (ys.take ln') ∧ BS (W.drewN nq) (some ⟨b, off, none⟩) ln' c (xs.take ln')) := ⟨bs_drews _ HQ.out.1, bs_drews _ HQ.out.2⟩
    replace h3 : (W.drewN nq).cell? ⟨T, 3, none⟩ = some (.slice (some ⟨lb, lo, none⟩) ln' lc) := h3
    replace h10 : (W.drewN nq).cell? ⟨T, 10, none⟩ = _ := h10
    replace h11 : (W.drewN nq).cell? ⟨T, 11, none⟩ = _ := h11
    replace e0 : (W.drewN nq).cell? ⟨E, 0, none⟩ = _ := e0
    replace e1 : (W.drewN nq).cell? ⟨E, 1, none⟩ = _ := e1
    replace hg0 : (W.drewN nq).cell? ⟨g, 0, none⟩ = _ := hg0
    replace zg : (W.drewN nq).frozen? ⟨g, 0, none⟩ = _ := zg
    replace z10 : (W.drewN nq).frozen? ⟨T, 10, none⟩ = _ := z10
    replace z11 : (W.drewN nq).frozen? ⟨T, 11, none⟩ = _ := z11
    clear HQ h4 h9
    generalize W.drewN nq = W2 at *
    have hz : Pl.lex (ys.take ln') (xs.take ln') < 0 := by
      have h := HZZ.out.1
      rw [← HE.out] at h
      exact h
    · have hd : decide (Pl.lex (ys.take ln') (xs.take ln') < 0) = true := by simpa using hz
      go_quiet ((go_at_call 20; exact Calls.quiet_of_same (compare_any _ _ _ _ _ _ (ys.take ln') (xs.take ln') _ (bs_drews _ HQ2.out.1) (bs_drews _ HQ2.out.2))))
      go_wp2_with fail
      replace HD2 : Hid (Drew W (W2.drewN nq)) := HD2.out.more _
      replace h10 : (W2.drewN nq).cell? ⟨T, 10, none⟩ = _ := h10
      replace h11 : (W2.drewN nq).cell? ⟨T, 11, none⟩ = _ := h11
      replace e0 : (W2.drewN nq).cell? ⟨E, 0, none⟩ = _ := e0
      replace hg0 : (W2.drewN nq).cell? ⟨g, 0, none⟩ = _ := hg0
      replace zg : (W2.drewN nq).frozen? ⟨g, 0, none⟩ = _ := zg
      replace z10 : (W2.drewN nq).frozen? ⟨T, 10, none⟩ = _ := z10
      replace z11 : (W2.drewN nq).frozen? ⟨T, 11, none⟩ = _ := z11
      clear HQ2 h3 e1 hd
      generalize W2.drewN nq = W3 at *
      rcases Int.lt_or_le fu 1 with hfu | hfu
      · go_region
        go_wp2_with fail
        go_ret
        refine FolPost.drew (fast_end w0 W3 T g cap ln' _ lm fu m _ xs ys (some ⟨b, off, none⟩, n, c, xs) f ⟨H.out.2.2.2.1, ?_⟩ rfl HY.out.1 b1 ?_ hT0 ?_ ?_ HE.out hz)
        · intro h0
          have := H.out.2.2.2.1.1
          replace h0 : xs = [] := h0
          rw [h0] at this
          simp at this
          omega
        · exact H.out.2.2.2.2.1.trans ((HD.out.trans HD2.out).below _)
        · refine H.out.1.of_block ?_
          rw [(HD.out.trans HD2.out).heap]
        · refine H.out.2.2.1.of_heap (fun g _ => ?_)
          rw [(HD.out.trans HD2.out).heap]
      · go_region
        go_wp2_with fail
        go_ret
        refine FolPost.drew (fast_end w0 W3 T g cap ln' _ lm fu m _ xs ys (some ⟨b, off, none⟩, n, c, xs) f ⟨H.out.2.2.2.1, ?_⟩ rfl HY.out.1 b1 ?_ hT0 ?_ ?_ HE.out hz)
        · intro h0
          have := H.out.2.2.2.1.1
          replace h0 : xs = [] := h0
          rw [h0] at this
          simp at this
          omega
        · exact H.out.2.2.2.2.1.trans ((HD.out.trans HD2.out).below _)
        · refine H.out.1.of_block ?_
          rw [(HD.out.trans HD2.out).heap]
        · refine H.out.2.2.1.of_heap (fun g _ => ?_)
          rw [(HD.out.trans HD2.out).heap]
end Go.Proofs.Qxb6616724aFmt
