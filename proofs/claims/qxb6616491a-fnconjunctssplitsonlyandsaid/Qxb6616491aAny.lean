import Derived.Test.Qxb6616491aBuilt
namespace Go.Proofs.Qxb6616491a
open Go.RowKit Go.Deep

theorem Try.info25 : ∃ i, Try.prog.info? 25 = some i ∧ i.zero = some (.pointer none) ∧ i.size = 1 ∧ i.bytes = 8 := info_parts (by kernel_rfl)
theorem make_leaves (n : Nat) (hm : n ≤ 4096) (w : World) : (Instr.makeSlice 24 (.int .i64 n) (.int .i64 n)).run Try.prog w = .ok (.slice (some ⟨w.heap.size, 0, none⟩) n n) (w.alloc (.cells (madeCells #[.pointer none] n) 25)) := by
  obtain ⟨i, e1, e2, e3, e4⟩ := Try.info25
  have h := run_make (P := Try.prog) w 24 25 i (.pointer none) Try.underlying24 e1 e2 .i64 .i64 (n : Int) (n : Int) (by omega) (by omega) (by rw [e4]; omega) (by omega)
  rw [e3] at h
  simpa [Value.cells] using h

theorem below_new (w : World) (o : Obj) : Below w.heap.size w (w.alloc o) := (Below.refl _ _).alloc (Nat.le_refl _) _
theorem leaves_lt {w : World} {b off : Nat} {ls : List (Nat × ByteArray)} (h : Leaves w b off ls) : ∀ l ∈ ls, l.1 < w.heap.size := by
  intro l hl
  obtain ⟨i, hi⟩ := List.getElem?_of_mem hl
  exact (h.2 i l hi).2.2.2.2.1
theorem leaves_set {w : World} {b off m j : Nat} {v : Value} {ls : List (Nat × ByteArray)} (h : Leaves w b off ls) (hb : b ≠ m) (hl : ∀ l ∈ ls, l.1 ≠ m) : Leaves (w.setCell ⟨m, j, none⟩ v) b off ls :=
  ⟨by rw [World.size_setCell]; exact h.1, fun i l hi => ⟨(World.cell?_setCell_other _ _ _ _ (by intro e; cases e; exact hb rfl)).trans (h.2 i l hi).1, rep_set _ (h.2 i l hi).2 (fun k hk => by
    simp [lf, blocks] at hk
    rw [hk]
    exact hl l (List.mem_of_getElem? hi))⟩⟩
theorem zz_of (T : BT ByteArray) (b : Nat) (w : World) (ls : List (Nat × ByteArray)) (hv : val T = .iface 25 (.pointer (some ⟨b, 0, none⟩))) (hr : rep w T) (hc : conj T = tms ls) (hl : (tms ls).length ≤ 8192) :
    Calls Try.prog 7 #[.iface 25 (.pointer (some ⟨b, 0, none⟩))] w (Gives w (tms ls)) := by
  have z := zz_any T w hr (by rw [hc]; omega)
  rw [hv, hc] at z
  exact z
theorem row_of_own {w : World} {base g n cap : Nat} {xs : List Value} (h : w.ownsRow base 27 1 (.slice (some ⟨g, 0, none⟩) n cap) n xs) (hg : g < w.heap.size) : Row w g xs :=
  ⟨hg, fun j u hu => by
    have := h.cells rfl j u hu
    have e : (⟨g, 0, none⟩ : Addr).add j = ⟨g, j, none⟩ := by unfold Addr.add; split <;> simp_all
    rwa [e] at this⟩

set_option maxHeartbeats 1000000 in
theorem law_nil (a : Option Addr) (c : Nat) (k : Int) (w : World) : Calls Try.prog 3 #[.slice a 0 c, .int .i64 k] w fun e w' => e = .returned (.bool true) ∧ Below w.heap.size w w' := by
  go_enter Try.func3, Try.ntmps3
  go_wp2_with (go_at_call 5; refine (bytes_nil _ _ _ _).mono ?_; rintro e w' ⟨rfl, rfl⟩)
  go_loop [5, 6] (fun z i => z = .int .i64 0 ∧ i = .int .i64 0) (fun _ _ => 0)
  case atStart => exact ⟨rfl, rfl⟩
  case round =>
    obtain ⟨rfl, rfl⟩ := hrel
    go_wp2
    go_ret
    exact ⟨rfl, Below.refl _ _⟩

set_option maxHeartbeats 4000000 in
theorem law_any (b off n c : Nat) (k : Int) (ss : List ByteArray) (w : World) (hn : ss.length = n) (hm : n ≤ maxLen) (hS : Strs w b off ss) (hk : -9223372036854775808 ≤ k ∧ k ≤ 9223372036854775807) :
    Calls Try.prog 3 #[.slice (some ⟨b, off, none⟩) n c, .int .i64 k] w fun e w' => e = .returned (.bool true) ∧ Below w.heap.size w w' := by
  have HN : Hid (ss.length = n) := hn
  have HS : Hid (Strs w b off ss) := hS
  have hmx := hm
  unfold maxLen at hm
  clear hn hS
  go_enter Try.func3, Try.ntmps3
  go_wp2_with fail
  refine (bytes_any b off n c k ss _ HN.out hmx HS.out).mono ?_
  rintro e w' ⟨⟨t, rfl, hshort⟩, rfl⟩
  have HSh : Hid (t = true → ∀ (i : Nat) (s : ByteArray), ss[i]? = some s → s.size ≤ 1048576) := hshort
  clear hshort
  clear hmx
  cases t
  · go_wp2
    go_ret
    exact ⟨rfl, Below.refl _ _⟩
  replace HSh : Hid (∀ (i : Nat) (s : ByteArray), ss[i]? = some s → s.size ≤ 1048576) := HSh.out rfl
  by_cases h1 : (4096 : Int) < (n : Int)
  · go_wp2
    go_ret
    exact ⟨rfl, Below.refl _ _⟩
  go_wp2
  go_loop [5, 6] (fun z i => ∃ (j : Nat) (y : Int), j ≤ n ∧ i = .int .i64 j ∧ z = .int .i64 y ∧ 0 ≤ y ∧ y ≤ 1048576) (fun _ i => n - (intOf i).toNat)
  case atStart => exact ⟨0, 0, Nat.zero_le _, rfl, rfl, by omega, by omega⟩
  case round =>
    obtain ⟨j, y, hj, rfl, rfl, y0, y1⟩ := hrel
    by_cases hlt : j < n
    · obtain ⟨s, hs⟩ : ∃ s, ss[j]? = some s := ⟨ss[j]'(by have := HN.out; omega), by simp⟩
      obtain ⟨cs, ms⟩ := HS.out.2 j s hs
      have ms := HSh.out j s hs
      clear hs
      go_wp2
      · go_ret
        exact ⟨rfl, Below.refl _ _⟩
      · go_round
        case rel => exact ⟨j + 1, y + (16 + s.size), by omega, by go_num, rfl, by omega, by omega⟩
        case measure => simp [intOf]; omega
    · obtain rfl : j = n := by omega
      clear y0 y1 hlt
      by_cases hz : j = 0
      · subst hz
        go_wp2
        go_ret
        exact ⟨rfl, Below.refl _ _⟩
      have hz' : ((j : Int) == 0) = false := by simp [hz]
      by_cases hk0 : k < 0
      · go_wp2
        go_ret
        exact ⟨rfl, Below.refl _ _⟩
      by_cases hkn : (j : Int) < k
      · go_wp2
        go_ret
        exact ⟨rfl, Below.refl _ _⟩
      have hj4 : j ≤ 4096 := by omega
      have hmk := make_leaves j hj4
      go_wp2
      clear hmk
      go_loopw [9] (fun i wv => ∃ q : Nat, q ≤ j ∧ i = .int .i64 q ∧ Built w' wv w'.heap.size j ss q) (fun i _ => j - (intOf i).toNat)
      case atStart => exact ⟨0, Nat.zero_le _, rfl, built_start w' j ss⟩
      case round =>
        obtain ⟨q, hq, rfl, hB⟩ := hrel
        have HB : Hid (Built w' wr w'.heap.size j ss q) := hB
        by_cases hql : q < j
        · obtain ⟨s, hs⟩ : ∃ s, ss[q]? = some s := ⟨ss[q]'(by have := HN.out; omega), by simp⟩
          have c1 := ((strs_below hB.1 HS.out).2 q s hs).1
          have hbz := (strs_below hB.1 HS.out).1
          obtain ⟨u, hu⟩ := Option.isSome_iff_exists.1 (hB.2.2.2.2.1 q hql)
          have hfz := hB.2.2.2.2.2 q
          have hgz : w'.heap.size < wr.heap.size := by have := hB.2.1; omega
          have Hs : Hid (ss[q]? = some s) := hs
          clear hs hB
          go_wp2
          go_roundw
          case rel => exact ⟨q + 1, by omega, by go_num, by rw [← World.setCell_alloc_past _ _ _ _ hgz]; exact built_step w' wr w'.heap.size j ss q s HB.out Hs.out hql⟩
          case measure => simp [intOf]; omega
        · obtain rfl : q = j := by omega
          have hL := built_end w' wr w'.heap.size q ss HN.out hB
          have hb0 := hB.1
          clear HB hql hq hB
          have HL : Hid (Leaves wr w'.heap.size 0 (mk w'.heap.size ss)) := hL
          clear hL
          have hmq : (mk w'.heap.size ss).length = q := (mk_len _ _).trans HN.out
          have HMq : Hid ((mk w'.heap.size ss).length = q) := hmq
          clear hmq
          have hq0 : 0 < q := by omega
          have hlen : (tms (mk w'.heap.size ss)).length ≤ 8192 := by have := tms_len (mk w'.heap.size ss); have := HMq.out; omega
          generalize mk w'.heap.size ss = ls at *
          go_wp2_with fail
          refine (left_any w'.heap.size 0 q q ls _ HMq.out hq0 hj4 HL.out).mono ?_
          rintro e w1 ⟨T1, b1, rfl, v1, r1, cj1, hb1, bl1⟩
          have z1 := zz_of T1 b1 w1 ls v1 r1 cj1 hlen
          have Z1 : Hid (Calls Try.prog 7 #[.iface 25 (.pointer (some ⟨b1, 0, none⟩))] w1 (Gives w1 (tms ls))) := z1
          replace HL : Hid (Leaves w1 w'.heap.size 0 ls) := leaves_below hb1 HL.out
          have B1 : Below w'.heap.size w' w1 := hb0.trans (hb1.mono hb0.size)
          clear v1 r1 cj1 hb1 bl1 z1 hb0 T1
          go_wp2_with fail
          refine Z1.out.mono ?_
          clear Z1
          rintro e w2 ⟨g2, cap2, rfl, own2, hb2, lo2, hi2⟩
          replace HL : Hid (Leaves w2 w'.heap.size 0 ls) := leaves_below hb2 HL.out
          have B2 : Below w'.heap.size w' w2 := B1.trans (hb2.mono B1.size)
          have HR : Hid (Row w2 g2 (tms ls)) := row_of_own own2 hi2
          clear own2 hb2 lo2 hi2 B1
          go_wp2_with fail
          refine (terms_any g2 _ cap2 w'.heap.size 0 q q ls w2 HMq.out hj4 HL.out HR.out rfl).mono ?_
          clear HR
          rintro e w3 ⟨rfl, hb3⟩
          replace HL : Hid (Leaves w3 w'.heap.size 0 ls) := leaves_below hb3 HL.out
          have B3 : Below w'.heap.size w' w3 := B2.trans (hb3.mono B2.size)
          clear hb3 B2
          go_wp2_with fail
          refine (right_any w'.heap.size 0 q q ls _ HMq.out hq0 hj4 HL.out).mono ?_
          rintro e w4 ⟨T1, b1, rfl, v1, r1, cj1, hb1, bl1⟩
          have z1 := zz_of T1 b1 w4 ls v1 r1 cj1 hlen
          have Z1 : Hid (Calls Try.prog 7 #[.iface 25 (.pointer (some ⟨b1, 0, none⟩))] w4 (Gives w4 (tms ls))) := z1
          replace HL : Hid (Leaves w4 w'.heap.size 0 ls) := leaves_below hb1 HL.out
          have B4 : Below w'.heap.size w' w4 := B3.trans (hb1.mono B3.size)
          clear v1 r1 cj1 hb1 bl1 z1 B3 T1
          go_wp2_with fail
          refine Z1.out.mono ?_
          clear Z1
          rintro e w5 ⟨g5, cap5, rfl, own2, hb2, lo2, hi2⟩
          replace HL : Hid (Leaves w5 w'.heap.size 0 ls) := leaves_below hb2 HL.out
          have B5 : Below w'.heap.size w' w5 := B4.trans (hb2.mono B4.size)
          have HR : Hid (Row w5 g5 (tms ls)) := row_of_own own2 hi2
          clear own2 hb2 lo2 hi2 B4
          go_wp2_with fail
          refine (terms_any g5 _ cap5 w'.heap.size 0 q q ls w5 HMq.out hj4 HL.out HR.out rfl).mono ?_
          clear HR
          rintro e w6 ⟨rfl, hb3⟩
          replace HL : Hid (Leaves w6 w'.heap.size 0 ls) := leaves_below hb3 HL.out
          have B6 : Below w'.heap.size w' w6 := B5.trans (hb3.mono B5.size)
          clear hb3 B5
          by_cases hkp : 0 < k
          · by_cases hkq : k < (q : Int)
            · obtain ⟨kk, rfl⟩ := Int.eq_ofNat_of_zero_le (show 0 ≤ k by omega)
              have hkk : kk ≤ q := by omega
              have hlv : ∀ l ∈ ls, l.1 < w6.heap.size := leaves_lt HL.out
              have HLV : Hid (∀ l ∈ ls, l.1 < w6.heap.size) := hlv
              have hgz : w'.heap.size < w6.heap.size := HL.out.1
              clear hlv
              go_wp2_with fail
              refine (right_any w'.heap.size 0 kk q (ls.take kk) _ (by have := HMq.out; simp; omega) (by omega) (by omega) (leaves_take (leaves_below (below_new w6 _) HL.out))).mono ?_
              rintro e w7 ⟨T7, b7, rfl, v7, r7, cj7, hb7, bl7⟩
              have H7 : Hid (val T7 = .iface 25 (.pointer (some ⟨b7, 0, none⟩)) ∧ rep w7 T7 ∧ conj T7 = tms (ls.take kk) ∧ (∀ x ∈ blocks T7, x ∈ (ls.take kk).map (·.1) ∨ w6.heap.size + 1 ≤ x)) := ⟨v7, r7, cj7, by simpa using bl7⟩
              have HB7 : Hid (Below (w6.heap.size + 1) (w6.alloc (.cells #[.string ⟨#[65, 78, 68]⟩, .nilIface, .nilIface] 29)) w7) := by rw [World.size_alloc] at hb7; exact hb7
              have m0 : w7.cell? ⟨w6.heap.size, 0, none⟩ = some (.string ⟨#[65, 78, 68]⟩) := (HB7.out.cell (p := ⟨w6.heap.size, 0, none⟩) (by simp)).trans (by simp [go_sem])
              have m1 : w7.cell? ⟨w6.heap.size, 1, none⟩ = some .nilIface := (HB7.out.cell (p := ⟨w6.heap.size, 1, none⟩) (by simp)).trans (by simp [go_sem])
              have m2 : w7.cell? ⟨w6.heap.size, 2, none⟩ = some .nilIface := (HB7.out.cell (p := ⟨w6.heap.size, 2, none⟩) (by simp)).trans (by simp [go_sem])
              have f1 : w7.frozen? ⟨w6.heap.size, 1, none⟩ = false := (HB7.out.frozen (p := ⟨w6.heap.size, 1, none⟩) (by simp)).trans (by simp [go_sem])
              have f2 : w7.frozen? ⟨w6.heap.size, 2, none⟩ = false := (HB7.out.frozen (p := ⟨w6.heap.size, 2, none⟩) (by simp)).trans (by simp [go_sem])
              have hz7 : w6.heap.size + 1 ≤ w7.heap.size := by have := HB7.out.size; simpa using this
              clear v7 r7 cj7 hb7 bl7
              have hL7 : Leaves w7 w'.heap.size 0 ls := leaves_below ((below_new w6 _).trans (HB7.out.mono (Nat.le_succ _))) HL.out
              have HL8 : Hid (Leaves (w7.setCell ⟨w6.heap.size, 1, none⟩ (.iface 25 (.pointer (some ⟨b7, 0, none⟩)))) w'.heap.size 0 ls) := leaves_set hL7 (Nat.ne_of_lt hgz) (fun l hl => Nat.ne_of_lt (HLV.out l hl))
              clear hL7
              go_wp2_with fail
              refine (left_any w'.heap.size kk (q - kk) (q - kk) (ls.drop kk) _ (by have := HMq.out; simp; omega) (by omega) (by omega) (by have := leaves_drop (k := kk) HL8.out; rwa [Nat.zero_add] at this)).mono ?_
              rintro e w9 ⟨T9, b9, rfl, v9, r9, cj9, hb9, bl9⟩
              have hsz9 : w7.heap.size ≤ w9.heap.size := by have := hb9.size; simpa using this
              have hb9' : Below w7.heap.size (w7.setCell ⟨w6.heap.size, 1, none⟩ (.iface 25 (.pointer (some ⟨b7, 0, none⟩)))) w9 := by rw [World.size_setCell] at hb9; exact hb9
              have n0 : w9.cell? ⟨w6.heap.size, 0, none⟩ = some (.string ⟨#[65, 78, 68]⟩) := (hb9'.cell (p := ⟨w6.heap.size, 0, none⟩) hz7).trans (by rw [World.cell?_setCell_other _ _ _ _ (by intro e; cases e)]; exact m0)
              have n1 : w9.cell? ⟨w6.heap.size, 1, none⟩ = some (.iface 25 (.pointer (some ⟨b7, 0, none⟩))) := (hb9'.cell (p := ⟨w6.heap.size, 1, none⟩) hz7).trans (World.cell?_setCell_same _ _ _ m1)
              have n2 : w9.cell? ⟨w6.heap.size, 2, none⟩ = some .nilIface := (hb9'.cell (p := ⟨w6.heap.size, 2, none⟩) hz7).trans (by rw [World.cell?_setCell_other _ _ _ _ (by intro e; cases e)]; exact m2)
              have nf : w9.frozen? ⟨w6.heap.size, 2, none⟩ = false := (hb9'.frozen (p := ⟨w6.heap.size, 2, none⟩) hz7).trans (by rw [World.frozen?_setCell]; exact f2)
              have r7' : rep (w7.setCell ⟨w6.heap.size, 1, none⟩ (.iface 25 (.pointer (some ⟨b7, 0, none⟩)))) T7 := rep_set T7 H7.out.2.1 (fun x hx => by
                rcases H7.out.2.2.2 x hx with h | h
                · obtain ⟨l, hl, rfl⟩ := List.mem_map.1 h
                  exact Nat.ne_of_lt (HLV.out l (List.mem_of_mem_take hl))
                · omega)
              have r7'' : rep (w9.setCell ⟨w6.heap.size, 2, none⟩ (.iface 25 (.pointer (some ⟨b9, 0, none⟩)))) T7 := rep_set T7 (rep_below hb9' (by simp) T7 r7') (fun x hx => by
                rcases H7.out.2.2.2 x hx with h | h
                · obtain ⟨l, hl, rfl⟩ := List.mem_map.1 h
                  exact Nat.ne_of_lt (HLV.out l (List.mem_of_mem_take hl))
                · omega)
              have r9'' : rep (w9.setCell ⟨w6.heap.size, 2, none⟩ (.iface 25 (.pointer (some ⟨b9, 0, none⟩)))) T9 := rep_set T9 r9 (fun x hx => by
                rcases bl9 x hx with h | h
                · obtain ⟨l, hl, rfl⟩ := List.mem_map.1 h
                  exact Nat.ne_of_lt (HLV.out l (List.mem_of_mem_drop hl))
                · rw [World.size_setCell] at h; omega)
              have Z : Hid (Calls Try.prog 7 #[.iface 25 (.pointer (some ⟨w6.heap.size, 0, none⟩))] (w9.setCell ⟨w6.heap.size, 2, none⟩ (.iface 25 (.pointer (some ⟨b9, 0, none⟩)))) (Gives (w9.setCell ⟨w6.heap.size, 2, none⟩ (.iface 25 (.pointer (some ⟨b9, 0, none⟩)))) (tms ls))) :=
                zz_of (.node w6.heap.size 0 ⟨#[65, 78, 68]⟩ T7 T9) w6.heap.size _ ls rfl
                  ⟨by rw [World.cell?_setCell_other _ _ _ _ (by intro e; cases e)]; exact n0, by rw [World.cell?_setCell_other _ _ _ _ (by intro e; cases e), H7.out.1]; exact n1, by rw [v9]; exact World.cell?_setCell_same _ _ _ n2, by rw [World.size_setCell]; omega, r7'', r9''⟩
                  (by rw [conj, if_pos isAnd_AND, H7.out.2.2.1, cj9, ← tms_app, List.take_append_drop]) hlen
              have HL9 : Hid (Leaves (w9.setCell ⟨w6.heap.size, 2, none⟩ (.iface 25 (.pointer (some ⟨b9, 0, none⟩)))) w'.heap.size 0 ls) := leaves_set (leaves_below hb9 HL8.out) (Nat.ne_of_lt hgz) (fun l hl => Nat.ne_of_lt (HLV.out l hl))
              have B9 : Below w'.heap.size w' (w9.setCell ⟨w6.heap.size, 2, none⟩ (.iface 25 (.pointer (some ⟨b9, 0, none⟩)))) :=
                ((((B6.trans ((below_new w6 _).mono (Nat.le_of_lt hgz))).trans (HB7.out.mono (by omega))).setCell (p := ⟨w6.heap.size, 1, none⟩) (Nat.le_of_lt hgz) _).trans (hb9'.mono (by omega))).setCell (p := ⟨w6.heap.size, 2, none⟩) (Nat.le_of_lt hgz) _
              clear v9 r9 cj9 hb9 bl9 hb9' r7' r7'' r9'' m0 m1 m2 f1 f2 HL8 HB7 H7 n0 n1
              go_wp2_with fail
              refine Z.out.mono ?_
              clear Z
              rintro e w10 ⟨g10, cap10, rfl, own2, hb2, lo2, hi2⟩
              have HL10 : Hid (Leaves w10 w'.heap.size 0 ls) := leaves_below hb2 HL9.out
              have B10 : Below w'.heap.size w' w10 := B9.trans (hb2.mono B9.size)
              have HR : Hid (Row w10 g10 (tms ls)) := row_of_own own2 hi2
              clear own2 hb2 lo2 hi2 B9 HL9
              go_wp2_with fail
              refine (terms_any g10 _ cap10 w'.heap.size 0 q q ls w10 HMq.out hj4 HL10.out HR.out rfl).mono ?_
              clear HR
              rintro e w11 ⟨rfl, hb3⟩
              have B11 : Below w'.heap.size w' w11 := B10.trans (hb3.mono B10.size)
              clear hb3 B10
              go_wp2_with fail
              go_ret
              exact ⟨rfl, B11⟩
            · go_wp2_with fail
              go_ret
              exact ⟨rfl, B6⟩
          · go_wp2_with fail
            go_ret
            exact ⟨rfl, B6⟩
end Go.Proofs.Qxb6616491a
