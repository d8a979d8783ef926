import Derived.Test.Qxb6616724aFmtFolD
import Derived.Deep.RegionHeld3
namespace Go.Proofs.Qxb6616724aFmt
open Go.RowKit Go.Extern.Stop Go.Stop Go.Extern

set_option maxHeartbeats 4000000 in
theorem zzfollows_any (F : Interp) (w0 w : World) (T : Nat) (ln fv : Value) (lm fu m : Int) (b off n c : Nat) (xs : List Int) (fs : List NV)
    (hB : Below w0.heap.size w0 w) (hT : TreeBox w T ln lm fv fu) (hT0 : w0.heap.size ≤ T) (hx : BS w0 (some ⟨b, off, none⟩) n c xs) (hn : 0 < n)
    (hlast : LastOk w0 ln lm (some ⟨b, off, none⟩, n, c, xs) m fs) (hf : FilesAt w0 w fv fs) (hfl : fs.length ≤ 1048576) (hF : F.answers w.tape) :
    Calls Tryf.prog 14 #[.pointer (some ⟨T, 0, none⟩), .slice (some ⟨b, off, none⟩) n c, .int .u32 m] w fun e w' => FolPost w0 T ln lm m xs fs e w' := by
  have hb2 : Below w0.heap.size w0 (w.alloc (.cells #[.slice (some ⟨b, off, none⟩) n c, .int .u32 m, .slice none 0 0] 42)) := hB.alloc hB.size _
  have hT2 : TreeBox (w.alloc (.cells #[.slice (some ⟨b, off, none⟩) n c, .int .u32 m, .slice none 0 0] 42)) T ln lm fv fu := hT.of_block (Below.heap_alloc _ _ _ hT.lt)
  have hf2 : FilesAt w0 (w.alloc (.cells #[.slice (some ⟨b, off, none⟩) n c, .int .u32 m, .slice none 0 0] 42)) fv fs := hf.of_heap (fun g hg => Below.heap_alloc _ _ _ (hf.base g hg).2)
  have hE : EBox (w.alloc (.cells #[.slice (some ⟨b, off, none⟩) n c, .int .u32 m, .slice none 0 0] 42)) w.heap.size (some ⟨b, off, none⟩, n, c, xs) m := Go.Deep.blk_alloc_new _ _
  have hc := follows_any F w0 _ T w.heap.size ln fv lm fu m b off n c xs fs hb2 hT2 hT0 hE hx hn hlast hf2 hfl (by exact hF)
  have HC : Hid _ := hc
  clear hc hb2 hT2 hf2 hE hB hT hx hlast hf
  go_enter Tryf.func14, Tryf.ntmps14
  go_wp2_with fail
  refine Calls.mono HC.out ?_
  rintro e w9 hp
  cases hq : (Pl.pop xs (m == 16384) (fs.map NV.xs)).1 with
  | true =>
    obtain ⟨a9, rfl⟩ := hp.2.1 hq
    have HP : Hid (FolPost w0 T ln lm m xs fs (.returned (.iface 59 (.pointer (some a9)))) w9) := hp
    clear hp
    go_wp2_with fail
    go_ret
    exact HP.out
  | false =>
    obtain ⟨rfl, h9⟩ := hp.2.2 hq
    have HP : Hid (FolPost w0 T ln lm m xs fs (.returned .nilIface) w9) := hp
    clear hp h9
    go_wp2_with fail
    go_ret
    exact HP.out

set_option maxHeartbeats 1000000 in
theorem setTaken_far (T : Nat) (ln fv nv : Value) (lm fu m : Int) (w : World) (h : TreeBox w T ln lm fv fu) (hnv : ∃ a n c, nv = .slice a n c) :
    Calls Tryf.prog 15 #[.pointer (some ⟨T, 0, none⟩), nv, .int .u32 m] w fun e w' => e = .returned (.tuple #[]) ∧ TreeBox w' T nv m fv fu ∧ (∀ B, B ≤ T → Below B w w') ∧ ∀ k, k ≠ T → w'.heap[k]? = w.heap[k]? := by
  obtain ⟨a, n, c, rfl⟩ := hnv
  have h9 : w.cell? ⟨T, 9, none⟩ = some (.int .i64 0) := h.cell 9
  have h3 : w.cell? ⟨T, 3, none⟩ = some ln := h.cell 3
  have h4 : w.cell? ⟨T, 4, none⟩ = some (.int .u32 lm) := h.cell 4
  have h5 : w.cell? ⟨T, 5, none⟩ = some (.slice none 0 0) := h.cell 5
  have z3 := h.frozen 3
  have z4 := h.frozen 4
  have z5 := h.frozen 5
  have H : Hid (TreeBox w T ln lm fv fu) := h
  clear h
  go_enter Tryf.func15, Tryf.ntmps15
  go_wp2_with fail
  go_region
  go_end0
  refine ⟨rfl, ?_, fun B hB => ((((Below.refl B w).setCell (p := ⟨T, 3, none⟩) hB _).setCell (p := ⟨T, 4, none⟩) hB _).setCell (p := ⟨T, 5, none⟩) hB _).drew, fun k hk => ?_⟩
  · exact ((H.out.setLast _ m)).of_block rfl
  · exact ((Below.heap_setCell _ ⟨T, 5, none⟩ _ k hk).trans (Below.heap_setCell _ ⟨T, 4, none⟩ _ k hk)).trans (Below.heap_setCell _ ⟨T, 3, none⟩ _ k hk)

theorem Pl.files_len (es : List (List Int × Bool)) : ∀ i, (Pl.filesAt es i).length ≤ i
  | 0 => by simp [Pl.filesAt]
  | i + 1 => by
    have ih := Pl.files_len es i
    obtain ⟨p, hp⟩ := Pl.pop_tail (Pl.nm es i) (Pl.tr es i) (Pl.filesAt es i)
    have : (Pl.filesAt es i).length = p.length + (Pl.pop (Pl.nm es i) (Pl.tr es i) (Pl.filesAt es i)).2.length := by
      have := congrArg List.length hp
      simpa using this
    rw [Pl.filesAt_succ, Pl.next]
    cases h : Pl.tr es i <;> rw [h] at this <;> simp <;> omega

/-- what stands ahead of the entry k -/
def RunAt (w wx : World) (T : Nat) (vs : List NV) (ms : List Int) (k : Nat) : Prop :=
  ∃ (ln fv : Value) (lm fu : Int) (fs : List NV), TreeBox wx T ln lm fv fu ∧ FilesAt w wx fv fs ∧ fs.map NV.xs = Pl.filesAt (es vs ms) k ∧ Below w.heap.size w wx ∧
    (k = 0 → lm = 0) ∧ ∀ j v m, k = j + 1 → vs[j]? = some v → ms[j]? = some m → ln = v.val ∧ lm = m

theorem run_len {k : Nat} {vs : List NV} {ms : List Int} {fs : List NV} (h : fs.map NV.xs = Pl.filesAt (es vs ms) k) : fs.length ≤ k := by
  have h1 := Pl.files_len (es vs ms) k
  have h2 := congrArg List.length h
  simp at h2
  omega

set_option maxHeartbeats 4000000 in
theorem run_any (F : Interp) (a a' : Option Addr) (n c c' P : Nat) (vs : List NV) (ms : List Int) (w : World) (hS : NS w a n vs) (hM : MS w a' n ms) (hne : ∀ v ∈ vs, v.xs ≠ []) (hn : n ≤ 1048576)
    (hR : Pl.RunsTo (es vs ms) P) (hF : F.answers w.tape) :
    Calls Tryf.prog 8 #[.slice a n c, .slice a' n c'] w fun e w' => e = .returned (.int .i64 P) ∧ Below w.heap.size w w' := by
  have hl : (es vs ms).length = n := by rw [es_len (hS.1.trans hM.1.symm), hS.1]
  have hP : P ≤ n := by have := hR.1; omega
  have HS : Hid (NS w a n vs ∧ MS w a' n ms ∧ (∀ v ∈ vs, v.xs ≠ []) ∧ Pl.RunsTo (es vs ms) P ∧ F.answers w.tape ∧ (es vs ms).length = n) := ⟨hS, hM, hne, hR, hF, hl⟩
  clear hS hM hne hR hF hl
  go_enter Tryf.func8, Tryf.ntmps8
  go_wp2_with fail
  refine (newTree_any w).mono ?_
  rintro e w1 ⟨rfl, hT1, hB1⟩
  have H1 : Hid (RunAt w w1 w.heap.size vs ms 0) := ⟨_, _, _, _, [], hT1, ⟨⟨rfl, .inl ⟨rfl, rfl⟩⟩, by simp⟩, rfl, hB1, fun _ => rfl, fun j v m h => by omega⟩
  clear hT1 hB1
  go_wp2_with fail
  go_loopw [6] (fun i wx => ∃ k : Nat, k ≤ P ∧ i = .int .i64 k ∧ RunAt w wx w.heap.size vs ms k) (fun i _ => n - (intOf i).toNat)
  case atStart => exact ⟨0, Nat.zero_le _, rfl, H1.out⟩
  case round =>
    obtain ⟨k, hk, rfl, hra⟩ := hrel
    obtain ⟨ln, fv, lm, fu, fs, hTB, hFA, hfs, hBW, hl0, hl1⟩ := hra
    by_cases hlt : k < n
    · obtain ⟨d, nl, cl, xs, nb, noff, hv, hbs, ea, hnb, hnc⟩ := ns_at HS.out.1 k hlt
      cases ea
      obtain ⟨m, mb, moff, hm, ea, hmb, hmc⟩ := ms_at HS.out.2.1 k hlt
      cases ea
      have hxne : xs ≠ [] := HS.out.2.2.1 _ (List.mem_of_getElem? hv)
      obtain ⟨b, off, nl', cl', xs', ex, hnl, hbs', _⟩ := nameIn_some (w0 := w) (v := (d, nl, cl, xs)) ⟨hbs, hxne⟩
      cases ex
      have hlast : LastOk w ln lm (some ⟨b, off, none⟩, nl, cl, xs) m fs := by
        rcases Nat.eq_zero_or_pos k with h | h
        · exact .inl (hl0 h)
        · obtain ⟨j, rfl⟩ : ∃ j, k = j + 1 := ⟨k - 1, by omega⟩
          obtain ⟨d2, nl2, cl2, xs2, _, _, hv2, hbs2, _⟩ := ns_at HS.out.1 j (by omega)
          obtain ⟨m2, _, _, hm2, _⟩ := ms_at HS.out.2.1 j (by omega)
          obtain ⟨e1, e2⟩ := hl1 j _ m2 rfl hv2 hm2
          subst e1 e2
          refine .inr ⟨_, rfl, ⟨hbs2, HS.out.2.2.1 _ (List.mem_of_getElem? hv2)⟩, ?_, fun hne => ?_⟩
          · have := HS.out.2.2.2.1.2.1 j (by have := HS.out.2.2.2.2.2; omega) hk
            rw [nm_at hv2 hm2, tr_at hv2 hm2, nm_at hv hm, tr_at hv hm] at this
            exact this
          · rw [hfs, Pl.files_top (by rw [tr_at hv2 hm2]; simpa using hne), nm_at hv2 hm2]
            exact ⟨_, rfl⟩
      have hfl : fs.length ≤ k := run_len hfs
      have hpe : Pl.pop (Pl.nm (es vs ms) k) (Pl.tr (es vs ms) k) (Pl.filesAt (es vs ms) k) = Pl.pop xs (m == 16384) (fs.map NV.xs) := by
        rw [nm_at hv hm, tr_at hv hm, hfs]
        rfl
      have hnx : Pl.filesAt (es vs ms) (k + 1) = Pl.next xs (m == 16384) (fs.map NV.xs) := by
        rw [Pl.filesAt_succ, nm_at hv hm, tr_at hv hm, hfs]
        rfl
      have c1 : wr.cell? ⟨nb, noff + k, none⟩ = some (.slice (some ⟨b, off, none⟩) nl cl) := (hBW.cell (p := ⟨nb, noff + k, none⟩) hnb).trans hnc
      have c2 : wr.cell? ⟨mb, moff + k, none⟩ = some (.int .u32 m) := (hBW.cell (p := ⟨mb, moff + k, none⟩) hmb).trans hmc
      have i1 : (0 : Int) ≤ (k : Int) := by omega
      have i2 : (k : Int) < (n : Int) := by omega
      have HR : Hid (TreeBox wr w.heap.size ln lm fv fu ∧ FilesAt w wr fv fs ∧ Below w.heap.size w wr ∧ LastOk w ln lm (some ⟨b, off, none⟩, nl, cl, xs) m fs ∧ BS w (some ⟨b, off, none⟩) nl cl xs ∧ fs.length ≤ 1048576 ∧ F.answers wr.tape) :=
        ⟨hTB, hFA, hBW, hlast, hbs, by omega, by (have e : wr.tape = w.tape := hBW.tape); rw [e]; exact HS.out.2.2.2.2.1⟩
      have HX : Hid (Pl.pop (Pl.nm (es vs ms) k) (Pl.tr (es vs ms) k) (Pl.filesAt (es vs ms) k) = Pl.pop xs (m == 16384) (fs.map NV.xs) ∧ Pl.filesAt (es vs ms) (k + 1) = Pl.next xs (m == 16384) (fs.map NV.xs)) := ⟨hpe, hnx⟩
      have HC : Hid (w.cell? ⟨nb, noff + k, none⟩ = some (.slice (some ⟨b, off, none⟩) nl cl) ∧ w.cell? ⟨mb, moff + k, none⟩ = some (.int .u32 m)) := ⟨hnc, hmc⟩
      have HV : Hid (vs[k]? = some (mkNV (some ⟨b, off, none⟩) nl cl xs) ∧ ms[k]? = some m) := ⟨hv, hm⟩
      clear hTB hFA hfs hBW hl0 hl1 hlast hpe hnx hbs hbs' hxne hnc hmc hv hm hfl
      by_cases hkP : k < P
      · have hq : (Pl.pop xs (m == 16384) (fs.map NV.xs)).1 = false := by
          rw [← HX.out.1]
          exact HS.out.2.2.2.1.2.2.1 k hkP
        go_wp2_with fail
        go_region_held3 (fun w' => w'.cell? ⟨nb, noff + k, none⟩ = some (.slice (some ⟨b, off, none⟩) nl cl) ∧ w'.cell? ⟨mb, moff + k, none⟩ = some (.int .u32 m)) (first | exact ⟨c3, c4⟩ | simp [go_sem, *])
          ((go_at_call 14; refine Calls.mono (zzfollows_any F w _ w.heap.size ln fv lm fu m b off nl cl xs fs HR.out.2.2.1.drew (HR.out.1.of_block rfl) (Nat.le_refl _) HR.out.2.2.2.2.1 hnl HR.out.2.2.2.1 (HR.out.2.1.of_heap (fun _ _ => rfl)) HR.out.2.2.2.2.2.1 HR.out.2.2.2.2.2.2) ?_; rintro e w9 hp; have hb9 := hp.1; obtain ⟨rfl, fv9, fu9, fs9, hT9, hF9, hx9⟩ := hp.2.2 hq; have c3 := (hb9.cell (p := ⟨nb, noff + k, none⟩) hnb).trans HC.out.1; have c4 := (hb9.cell (p := ⟨mb, moff + k, none⟩) hmb).trans HC.out.2; clear hp))
        have H9 : Hid (TreeBox w9 w.heap.size ln lm fv9 fu9 ∧ FilesAt w w9 fv9 fs9 ∧ fs9.map NV.xs = Pl.next xs (m == 16384) (fs.map NV.xs) ∧ Below w.heap.size w w9) := ⟨hT9, hF9, hx9, hb9⟩
        clear hT9 hF9 hx9 hb9 c1 c2
        go_wp2_with fail
        go_region_held3 (fun w' => w'.cell? ⟨nb, noff + k, none⟩ = some (.slice (some ⟨b, off, none⟩) nl cl) ∧ w'.cell? ⟨mb, moff + k, none⟩ = some (.int .u32 m)) (first | exact ⟨c5, c6⟩ | simp [go_sem, *])
          ((go_at_call 15; refine Calls.mono (setTaken_far w.heap.size ln fv9 (.slice (some ⟨b, off, none⟩) nl cl) lm fu9 m _ (H9.out.1.of_block rfl) ⟨_, _, _, rfl⟩) ?_; rintro e w10 ⟨rfl, hT10, hB10, hfar⟩; have hb10 : Below w.heap.size w w10 := H9.out.2.2.2.drew.trans (hB10 w.heap.size (Nat.le_refl _)); have c5 := (hb10.cell (p := ⟨nb, noff + k, none⟩) hnb).trans HC.out.1; have c6 := (hb10.cell (p := ⟨mb, moff + k, none⟩) hmb).trans HC.out.2))
        have H10 : Hid (RunAt w w10 w.heap.size vs ms (k + 1)) := by
          refine ⟨_, fv9, m, fu9, fs9, hT10, H9.out.2.1.of_heap (fun g hg => hfar g (H9.out.2.1.ne H9.out.1 g hg)), H9.out.2.2.1.trans HX.out.2.symm, hb10, fun h => by omega, fun j v m' hj hv' hm' => ?_⟩
          obtain rfl : j = k := by omega
          rw [HV.out.1] at hv'
          rw [HV.out.2] at hm'
          cases hv'
          cases hm'
          exact ⟨rfl, rfl⟩
        clear hT10 hB10 hfar hb10
        go_wp2_with fail
        go_roundw
        case rel => exact ⟨k + 1, by omega, by go_num, H10.out⟩
        case measure => simp [intOf]; omega
      · obtain rfl : k = P := by omega
        have hq : (Pl.pop xs (m == 16384) (fs.map NV.xs)).1 = true := by
          rw [← HX.out.1]
          exact HS.out.2.2.2.1.2.2.2 (by have := HS.out.2.2.2.2.2; omega)
        go_wp2_with fail
        go_region_held3 (fun w' => w'.cell? ⟨nb, noff + k, none⟩ = some (.slice (some ⟨b, off, none⟩) nl cl) ∧ w'.cell? ⟨mb, moff + k, none⟩ = some (.int .u32 m)) (first | exact ⟨c3, c4⟩ | simp [go_sem, *])
          ((go_at_call 14; refine Calls.mono (zzfollows_any F w _ w.heap.size ln fv lm fu m b off nl cl xs fs HR.out.2.2.1.drew (HR.out.1.of_block rfl) (Nat.le_refl _) HR.out.2.2.2.2.1 hnl HR.out.2.2.2.1 (HR.out.2.1.of_heap (fun _ _ => rfl)) HR.out.2.2.2.2.2.1 HR.out.2.2.2.2.2.2) ?_; rintro e w9 hp; have hb9 := hp.1; obtain ⟨a9, rfl⟩ := hp.2.1 hq; have c3 := (hb9.cell (p := ⟨nb, noff + k, none⟩) hnb).trans HC.out.1; have c4 := (hb9.cell (p := ⟨mb, moff + k, none⟩) hmb).trans HC.out.2; clear hp))
        have H9 : Hid (Below w.heap.size w w9) := hb9
        clear hb9
        go_wp2_with fail
        go_ret
        exact ⟨rfl, H9.out⟩
    · obtain rfl : P = n := by omega
      obtain rfl : k = P := by omega
      have HB : Hid (Below w.heap.size w wr) := hBW
      clear hTB hFA hfs hBW hl0 hl1
      go_wp2_with fail
      go_ret
      exact ⟨rfl, HB.out⟩
end Go.Proofs.Qxb6616724aFmt
