import Derived.Test.Qxb6616724aCopy
import Derived.Deep.DeepCutAuto
namespace Go.Proofs.Qxb6616724a
open Go.RowKit


/-- some path of a list is held by one of two lists -/
def any2 (a b l : List ByteArray) : Bool := l.any fun x => mem x a || mem x b
def any1 (a l : List ByteArray) : Bool := l.any fun x => mem x a
theorem any2_snoc {a b l : List ByteArray} {k : Nat} {x : ByteArray} (h : l[k]? = some x) : any2 a b (l.take (k + 1)) = (any2 a b (l.take k) || (mem x a || mem x b)) := by
  have e : l.take (k + 1) = l.take k ++ [x] := by rw [List.take_add_one, h]; rfl
  rw [e]; simp [any2]
theorem any1_snoc {a l : List ByteArray} {k : Nat} {x : ByteArray} (h : l[k]? = some x) : any1 a (l.take (k + 1)) = (any1 a (l.take k) || mem x a) := by
  have e : l.take (k + 1) = l.take k ++ [x] := by rw [List.take_add_one, h]; rfl
  rw [e]; simp [any1]
theorem shr_nil_r (xs : List ByteArray) : shr xs [] = false := by simp [shr, mem]
theorem shr_nil_l (xs : List ByteArray) : shr [] xs = false := by simp [shr]
theorem shr_one_l (x : ByteArray) (xs : List ByteArray) : shr [x] xs = mem x xs := by simp [shr]
theorem shr_one_r (x : ByteArray) (xs : List ByteArray) : shr xs [x] = mem x xs := by rw [shr_comm, shr_one_l]
theorem meet_comm (cf cd cr df dd dr : List ByteArray) : meet df dd dr cf cd cr = meet cf cd cr df dd dr := by
  simp only [meet]
  rw [shr_comm df cf, shr_comm df cd, shr_comm dd cf, shr_comm dr cd, shr_comm dd cr]
  cases shr cf df <;> cases shr cd df <;> cases shr cf dd <;> cases shr cd dr <;> cases shr cr dd <;> rfl
theorem one1 (x : ByteArray) (cf cd cr : List ByteArray) : meet cf cd cr [x] [] [] = (mem x cf || mem x cd) := by
  simp [meet, shr_nil_r, shr_one_r]
theorem one2 (x : ByteArray) (cf cd cr : List ByteArray) : meet cf cd cr [] [x] [] = (mem x cf || mem x cr) := by
  simp [meet, shr_nil_r, shr_one_r]
theorem one3 (x : ByteArray) (cf cd cr : List ByteArray) : meet cf cd cr [] [] [x] = mem x cd := by
  simp [meet, shr_nil_r, shr_one_r]
theorem shr_any2 (a b l : List ByteArray) : any2 a b l = (shr a l || shr b l) := by
  rw [shr_comm a l, shr_comm b l]
  induction l with
  | nil => rfl
  | cons x l ih =>
    simp only [any2, shr, List.any_cons] at *
    rw [ih]
    cases mem x a <;> cases mem x b <;> simp
theorem shr_any1 (a l : List ByteArray) : any1 a l = shr a l := by rw [shr_comm a l]; rfl
theorem meet_eq (cf cd cr df dd dr : List ByteArray) : meet cf cd cr df dd dr = (any2 cf cd df || (any2 cf cr dd || any1 cd dr)) := by
  simp only [meet, shr_any2, shr_any1]
  cases shr cf df <;> cases shr cd df <;> cases shr cf dd <;> cases shr cd dr <;> cases shr cr dd <;> rfl
theorem asc_one (x : ByteArray) : Asc [x] := by
  intro t u s s' _ h1 h2
  rcases t with _ | t <;> rcases u with _ | u <;> simp at h1 h2
  subst h1; subst h2
  exact less_irrefl _
theorem asc_nil : Asc [] := by intro t u s s' _ h1 _; simp at h1
theorem lst_nil (w : World) : Lst w (.slice none 0 0) [] := ⟨none, 0, 0, rfl, ⟨rfl, Nat.zero_le _, fun i s h => by simp at h⟩, Nat.zero_le _, asc_nil⟩
theorem lst_one (w : World) (x : ByteArray) (hx : x.size ≤ maxLen) : Lst (w.alloc (.cells #[.string x] 9)) (.slice (some ⟨w.heap.size, 0, none⟩) 1 1) [x] := by
  refine ⟨_, 1, 1, rfl, ⟨rfl, by unfold maxLen; omega, fun i s h => ?_⟩, by omega, asc_one x⟩
  rcases i with _ | i
  · simp at h
    subst h
    exact ⟨hx, w.heap.size, 0, rfl, by simp, by simp⟩
  · simp at h
theorem ss_of {w : World} {a : Option Addr} {n c : Nat} {ss : List ByteArray} (h : Lst w (.slice a n c) ss) : SS w a n ss := by
  obtain ⟨a', n', c', e, h1, _⟩ := h
  cases e
  exact h1
theorem below3 (w : World) (a b c : Obj) : Below w.heap.size w (((w.alloc a).alloc b).alloc c) := (((Below.refl _ _).alloc (Nat.le_refl _) _).alloc (by simp) _).alloc (by simp; omega) _

set_option maxRecDepth 100000 in
set_option maxHeartbeats 16000000 in
theorem law_any (a0 a1 a2 a3 a4 a5 : Option Addr) (n0 n1 n2 n3 n4 n5 c0 c1 c2 c3 c4 c5 : Nat) (s0 s1 s2 s3 s4 s5 : List ByteArray) (w : World) (h0 : SS w a0 n0 s0) (h1 : SS w a1 n1 s1) (h2 : SS w a2 n2 s2) (h3 : SS w a3 n3 s3) (h4 : SS w a4 n4 s4) (h5 : SS w a5 n5 s5) :
    Calls Try.prog 3 #[.slice a0 n0 c0, .slice a1 n1 c1, .slice a2 n2 c2, .slice a3 n3 c3, .slice a4 n4 c4, .slice a5 n5 c5] w fun e w' => e = .returned (.bool true) ∧ Below w.heap.size w w' := by
  have H : Hid (SS w a0 n0 s0 ∧ SS w a1 n1 s1 ∧ SS w a2 n2 s2 ∧ SS w a3 n3 s3 ∧ SS w a4 n4 s4 ∧ SS w a5 n5 s5) := ⟨h0, h1, h2, h3, h4, h5⟩
  clear h0 h1 h2 h3 h4 h5
  go_enter Try.func3, Try.ntmps3
  go_wp2_with fail
  refine (bytes_any a0 a1 a2 a3 a4 a5 n0 n1 n2 n3 n4 n5 c0 c1 c2 c3 c4 c5 s0 s1 s2 s3 s4 s5 _ H.out.1 H.out.2.1 H.out.2.2.1 H.out.2.2.2.1 H.out.2.2.2.2.1 H.out.2.2.2.2.2).mono ?_
  rintro e w' ⟨⟨t, rfl⟩, hv⟩
  obtain rfl := hv.symm
  clear hv
  cases t with
  | false => as_aux_lemma =>
    go_wp2_with fail
    go_ret
    exact ⟨rfl, Below.refl _ _⟩
  | true =>
  go_wp2_with fail
  refine (sizeOK_any a0 a1 a2 a3 a4 a5 n0 n1 n2 n3 n4 n5 c0 c1 c2 c3 c4 c5 s0 s1 s2 s3 s4 s5 _ H.out.1 H.out.2.1 H.out.2.2.1 H.out.2.2.2.1 H.out.2.2.2.2.1 H.out.2.2.2.2.2).mono ?_
  rintro e w' ⟨⟨r, rfl⟩, hv⟩
  obtain rfl := hv.symm
  clear hv
  cases hr : decide (0 ≤ r) with
  | false => as_aux_lemma =>
    clear hr
    go_wp2_with fail
    go_ret
    exact ⟨rfl, Below.refl _ _⟩
  | true =>
  clear hr
  by_cases g0 : (4096 : Int) < (n0 : Int)
  · as_aux_lemma =>
    go_wp2_with fail
    go_ret
    exact ⟨rfl, Below.refl _ _⟩
  by_cases g1 : (4096 : Int) < (n1 : Int)
  · as_aux_lemma =>
    go_wp2_with fail
    go_ret
    exact ⟨rfl, Below.refl _ _⟩
  by_cases g2 : (4096 : Int) < (n2 : Int)
  · as_aux_lemma =>
    go_wp2_with fail
    go_ret
    exact ⟨rfl, Below.refl _ _⟩
  by_cases g3 : (4096 : Int) < (n3 : Int)
  · as_aux_lemma =>
    go_wp2_with fail
    go_ret
    exact ⟨rfl, Below.refl _ _⟩
  by_cases g4 : (4096 : Int) < (n4 : Int)
  · as_aux_lemma =>
    go_wp2_with fail
    go_ret
    exact ⟨rfl, Below.refl _ _⟩
  by_cases g5 : (4096 : Int) < (n5 : Int)
  · as_aux_lemma =>
    go_wp2_with fail
    go_ret
    exact ⟨rfl, Below.refl _ _⟩
  go_wp2_with fail
  refine (sorted6_any a0 a1 a2 a3 a4 a5 n0 n1 n2 n3 n4 n5 c0 c1 c2 c3 c4 c5 s0 s1 s2 s3 s4 s5 _ H.out.1 H.out.2.1 H.out.2.2.1 H.out.2.2.2.1 H.out.2.2.2.2.1 H.out.2.2.2.2.2).mono ?_
  rintro e w' ⟨⟨t, rfl, hasc⟩, q, rfl⟩
  cases t with
  | false => as_aux_lemma =>
    clear hasc
    go_wp2_with fail
    go_ret
    exact ⟨rfl, below_drews _ _ _⟩
  | true =>
  have HA : Hid (Asc s0 ∧ Asc s1 ∧ Asc s2 ∧ Asc s3 ∧ Asc s4 ∧ Asc s5) := hasc rfl
  clear hasc
  have m0 : n0 ≤ 4096 := by omega
  have m1 : n1 ≤ 4096 := by omega
  have m2 : n2 ≤ 4096 := by omega
  have m3 : n3 ≤ 4096 := by omega
  have m4 : n4 ≤ 4096 := by omega
  have m5 : n5 ≤ 4096 := by omega
  clear g0 g1 g2 g3 g4 g5
  have HL0 : Hid (SS (w.drewN q) a0 n0 s0 ∧ SS (w.drewN q) a1 n1 s1 ∧ SS (w.drewN q) a2 n2 s2 ∧ SS (w.drewN q) a3 n3 s3 ∧ SS (w.drewN q) a4 n4 s4 ∧ SS (w.drewN q) a5 n5 s5) := ⟨ss_drews q H.out.1, ss_drews q H.out.2.1, ss_drews q H.out.2.2.1, ss_drews q H.out.2.2.2.1, ss_drews q H.out.2.2.2.2.1, ss_drews q H.out.2.2.2.2.2⟩
  have HB0 : Hid (Below w.heap.size w (w.drewN q)) := below_drews _ _ _
  clear H
  generalize w.drewN q = W0 at *
  have neq0 := fun wz => run_neq_slice_nil_any (P := Try.prog) wz 22 9 a0 n0 c0 0 0 Try.underlying22
  go_upto_if 88 with (fail)
  go_cut [0] (fun sx wx => ∃ a c, sx = .slice a n0 c ∧ SS wx a n0 s0 ∧ (SS wx a1 n1 s1 ∧ SS wx a2 n2 s2 ∧ SS wx a3 n3 s3 ∧ SS wx a4 n4 s4 ∧ SS wx a5 n5 s5) ∧ Below w.heap.size w wx)
  case first => as_aux_lemma =>
    obtain ⟨WC, hcp, hss, hb⟩ := copy_strs a0 n0 c0 s0 W0 HL0.out.1 m0
    have hmk := make_strs n0 m0
    have HX : Hid (SS WC (some ⟨W0.heap.size, 0, none⟩) n0 s0 ∧ Below W0.heap.size W0 WC) := ⟨hss, hb⟩
    clear hss hb
    cases a0 with
    | none =>
      go_wp2_with fail
      go_meet
      case rel => exact ⟨_, _, rfl, HL0.out.1, ⟨HL0.out.2.1, HL0.out.2.2.1, HL0.out.2.2.2.1, HL0.out.2.2.2.2.1, HL0.out.2.2.2.2.2⟩, HB0.out⟩
    | some ad =>
      go_wp2_with fail
      go_meet
      case rel => exact ⟨_, _, rfl, HX.out.1, ⟨ss_below HX.out.2 HL0.out.2.1, ss_below HX.out.2 HL0.out.2.2.1, ss_below HX.out.2 HL0.out.2.2.2.1, ss_below HX.out.2 HL0.out.2.2.2.2.1, ss_below HX.out.2 HL0.out.2.2.2.2.2⟩, HB0.out.trans (HX.out.2.mono HB0.out.size)⟩
  case rest => as_aux_lemma =>
    obtain ⟨b0, d0, rfl, y0, ⟨z1, z2, z3, z4, z5⟩, hbx⟩ := hcut
    have HL1 : Hid (SS wc b0 n0 s0 ∧ SS wc a1 n1 s1 ∧ SS wc a2 n2 s2 ∧ SS wc a3 n3 s3 ∧ SS wc a4 n4 s4 ∧ SS wc a5 n5 s5) := ⟨y0, z1, z2, z3, z4, z5⟩
    have HB1 : Hid (Below w.heap.size w wc) := hbx
    clear HL0 HB0 hbx neq0 y0 z1 z2 z3 z4 z5
    obtain ⟨W1, hW⟩ : ∃ x, x = wc := ⟨_, rfl⟩
    subst hW
    have neq1 := fun wz => run_neq_slice_nil_any (P := Try.prog) wz 22 9 a1 n1 c1 0 0 Try.underlying22
    go_upto_if 97 with (fail)
    go_cut [1] (fun sx wx => ∃ a c, sx = .slice a n1 c ∧ SS wx a n1 s1 ∧ (SS wx b0 n0 s0 ∧ SS wx a2 n2 s2 ∧ SS wx a3 n3 s3 ∧ SS wx a4 n4 s4 ∧ SS wx a5 n5 s5) ∧ Below w.heap.size w wx)
    case first => as_aux_lemma =>
      obtain ⟨WC, hcp, hss, hb⟩ := copy_strs a1 n1 c1 s1 W1 HL1.out.2.1 m1
      have hmk := make_strs n1 m1
      have HX : Hid (SS WC (some ⟨W1.heap.size, 0, none⟩) n1 s1 ∧ Below W1.heap.size W1 WC) := ⟨hss, hb⟩
      clear hss hb
      cases a1 with
      | none =>
        go_wp2_with fail
        go_meet
        case rel => exact ⟨_, _, rfl, HL1.out.2.1, ⟨HL1.out.1, HL1.out.2.2.1, HL1.out.2.2.2.1, HL1.out.2.2.2.2.1, HL1.out.2.2.2.2.2⟩, HB1.out⟩
      | some ad =>
        go_wp2_with fail
        go_meet
        case rel => exact ⟨_, _, rfl, HX.out.1, ⟨ss_below HX.out.2 HL1.out.1, ss_below HX.out.2 HL1.out.2.2.1, ss_below HX.out.2 HL1.out.2.2.2.1, ss_below HX.out.2 HL1.out.2.2.2.2.1, ss_below HX.out.2 HL1.out.2.2.2.2.2⟩, HB1.out.trans (HX.out.2.mono HB1.out.size)⟩
    case rest => as_aux_lemma =>
      obtain ⟨b1, d1, rfl, y1, ⟨z0, z2, z3, z4, z5⟩, hbx⟩ := hcut
      have HL2 : Hid (SS wc b0 n0 s0 ∧ SS wc b1 n1 s1 ∧ SS wc a2 n2 s2 ∧ SS wc a3 n3 s3 ∧ SS wc a4 n4 s4 ∧ SS wc a5 n5 s5) := ⟨z0, y1, z2, z3, z4, z5⟩
      have HB2 : Hid (Below w.heap.size w wc) := hbx
      clear HL1 HB1 hbx neq1 y1 z0 z2 z3 z4 z5
      obtain ⟨W2, hW⟩ : ∃ x, x = wc := ⟨_, rfl⟩
      subst hW
      have neq2 := fun wz => run_neq_slice_nil_any (P := Try.prog) wz 22 9 a2 n2 c2 0 0 Try.underlying22
      go_upto_if 106 with (fail)
      go_cut [2] (fun sx wx => ∃ a c, sx = .slice a n2 c ∧ SS wx a n2 s2 ∧ (SS wx b0 n0 s0 ∧ SS wx b1 n1 s1 ∧ SS wx a3 n3 s3 ∧ SS wx a4 n4 s4 ∧ SS wx a5 n5 s5) ∧ Below w.heap.size w wx)
      case first => as_aux_lemma =>
        obtain ⟨WC, hcp, hss, hb⟩ := copy_strs a2 n2 c2 s2 W2 HL2.out.2.2.1 m2
        have hmk := make_strs n2 m2
        have HX : Hid (SS WC (some ⟨W2.heap.size, 0, none⟩) n2 s2 ∧ Below W2.heap.size W2 WC) := ⟨hss, hb⟩
        clear hss hb
        cases a2 with
        | none =>
          go_wp2_with fail
          go_meet
          case rel => exact ⟨_, _, rfl, HL2.out.2.2.1, ⟨HL2.out.1, HL2.out.2.1, HL2.out.2.2.2.1, HL2.out.2.2.2.2.1, HL2.out.2.2.2.2.2⟩, HB2.out⟩
        | some ad =>
          go_wp2_with fail
          go_meet
          case rel => exact ⟨_, _, rfl, HX.out.1, ⟨ss_below HX.out.2 HL2.out.1, ss_below HX.out.2 HL2.out.2.1, ss_below HX.out.2 HL2.out.2.2.2.1, ss_below HX.out.2 HL2.out.2.2.2.2.1, ss_below HX.out.2 HL2.out.2.2.2.2.2⟩, HB2.out.trans (HX.out.2.mono HB2.out.size)⟩
      case rest => as_aux_lemma =>
        obtain ⟨b2, d2, rfl, y2, ⟨z0, z1, z3, z4, z5⟩, hbx⟩ := hcut
        have HL3 : Hid (SS wc b0 n0 s0 ∧ SS wc b1 n1 s1 ∧ SS wc b2 n2 s2 ∧ SS wc a3 n3 s3 ∧ SS wc a4 n4 s4 ∧ SS wc a5 n5 s5) := ⟨z0, z1, y2, z3, z4, z5⟩
        have HB3 : Hid (Below w.heap.size w wc) := hbx
        clear HL2 HB2 hbx neq2 y2 z0 z1 z3 z4 z5
        obtain ⟨W3, hW⟩ : ∃ x, x = wc := ⟨_, rfl⟩
        subst hW
        have neq3 := fun wz => run_neq_slice_nil_any (P := Try.prog) wz 22 9 a3 n3 c3 0 0 Try.underlying22
        go_upto_if 115 with (fail)
        go_cut [3] (fun sx wx => ∃ a c, sx = .slice a n3 c ∧ SS wx a n3 s3 ∧ (SS wx b0 n0 s0 ∧ SS wx b1 n1 s1 ∧ SS wx b2 n2 s2 ∧ SS wx a4 n4 s4 ∧ SS wx a5 n5 s5) ∧ Below w.heap.size w wx)
        case first => as_aux_lemma =>
          obtain ⟨WC, hcp, hss, hb⟩ := copy_strs a3 n3 c3 s3 W3 HL3.out.2.2.2.1 m3
          have hmk := make_strs n3 m3
          have HX : Hid (SS WC (some ⟨W3.heap.size, 0, none⟩) n3 s3 ∧ Below W3.heap.size W3 WC) := ⟨hss, hb⟩
          clear hss hb
          cases a3 with
          | none =>
            go_wp2_with fail
            go_meet
            case rel => exact ⟨_, _, rfl, HL3.out.2.2.2.1, ⟨HL3.out.1, HL3.out.2.1, HL3.out.2.2.1, HL3.out.2.2.2.2.1, HL3.out.2.2.2.2.2⟩, HB3.out⟩
          | some ad =>
            go_wp2_with fail
            go_meet
            case rel => exact ⟨_, _, rfl, HX.out.1, ⟨ss_below HX.out.2 HL3.out.1, ss_below HX.out.2 HL3.out.2.1, ss_below HX.out.2 HL3.out.2.2.1, ss_below HX.out.2 HL3.out.2.2.2.2.1, ss_below HX.out.2 HL3.out.2.2.2.2.2⟩, HB3.out.trans (HX.out.2.mono HB3.out.size)⟩
        case rest => as_aux_lemma =>
          obtain ⟨b3, d3, rfl, y3, ⟨z0, z1, z2, z4, z5⟩, hbx⟩ := hcut
          have HL4 : Hid (SS wc b0 n0 s0 ∧ SS wc b1 n1 s1 ∧ SS wc b2 n2 s2 ∧ SS wc b3 n3 s3 ∧ SS wc a4 n4 s4 ∧ SS wc a5 n5 s5) := ⟨z0, z1, z2, y3, z4, z5⟩
          have HB4 : Hid (Below w.heap.size w wc) := hbx
          clear HL3 HB3 hbx neq3 y3 z0 z1 z2 z4 z5
          obtain ⟨W4, hW⟩ : ∃ x, x = wc := ⟨_, rfl⟩
          subst hW
          have neq4 := fun wz => run_neq_slice_nil_any (P := Try.prog) wz 22 9 a4 n4 c4 0 0 Try.underlying22
          go_upto_if 124 with (fail)
          go_cut [4] (fun sx wx => ∃ a c, sx = .slice a n4 c ∧ SS wx a n4 s4 ∧ (SS wx b0 n0 s0 ∧ SS wx b1 n1 s1 ∧ SS wx b2 n2 s2 ∧ SS wx b3 n3 s3 ∧ SS wx a5 n5 s5) ∧ Below w.heap.size w wx)
          case first => as_aux_lemma =>
            obtain ⟨WC, hcp, hss, hb⟩ := copy_strs a4 n4 c4 s4 W4 HL4.out.2.2.2.2.1 m4
            have hmk := make_strs n4 m4
            have HX : Hid (SS WC (some ⟨W4.heap.size, 0, none⟩) n4 s4 ∧ Below W4.heap.size W4 WC) := ⟨hss, hb⟩
            clear hss hb
            cases a4 with
            | none =>
              go_wp2_with fail
              go_meet
              case rel => exact ⟨_, _, rfl, HL4.out.2.2.2.2.1, ⟨HL4.out.1, HL4.out.2.1, HL4.out.2.2.1, HL4.out.2.2.2.1, HL4.out.2.2.2.2.2⟩, HB4.out⟩
            | some ad =>
              go_wp2_with fail
              go_meet
              case rel => exact ⟨_, _, rfl, HX.out.1, ⟨ss_below HX.out.2 HL4.out.1, ss_below HX.out.2 HL4.out.2.1, ss_below HX.out.2 HL4.out.2.2.1, ss_below HX.out.2 HL4.out.2.2.2.1, ss_below HX.out.2 HL4.out.2.2.2.2.2⟩, HB4.out.trans (HX.out.2.mono HB4.out.size)⟩
          case rest => as_aux_lemma =>
            obtain ⟨b4, d4, rfl, y4, ⟨z0, z1, z2, z3, z5⟩, hbx⟩ := hcut
            have HL5 : Hid (SS wc b0 n0 s0 ∧ SS wc b1 n1 s1 ∧ SS wc b2 n2 s2 ∧ SS wc b3 n3 s3 ∧ SS wc b4 n4 s4 ∧ SS wc a5 n5 s5) := ⟨z0, z1, z2, z3, y4, z5⟩
            have HB5 : Hid (Below w.heap.size w wc) := hbx
            clear HL4 HB4 hbx neq4 y4 z0 z1 z2 z3 z5
            obtain ⟨W5, hW⟩ : ∃ x, x = wc := ⟨_, rfl⟩
            subst hW
            have neq5 := fun wz => run_neq_slice_nil_any (P := Try.prog) wz 22 9 a5 n5 c5 0 0 Try.underlying22
            go_upto_if 133 with (fail)
            go_cut [5] (fun sx wx => ∃ a c, sx = .slice a n5 c ∧ SS wx a n5 s5 ∧ (SS wx b0 n0 s0 ∧ SS wx b1 n1 s1 ∧ SS wx b2 n2 s2 ∧ SS wx b3 n3 s3 ∧ SS wx b4 n4 s4) ∧ Below w.heap.size w wx)
            case first => as_aux_lemma =>
              obtain ⟨WC, hcp, hss, hb⟩ := copy_strs a5 n5 c5 s5 W5 HL5.out.2.2.2.2.2 m5
              have hmk := make_strs n5 m5
              have HX : Hid (SS WC (some ⟨W5.heap.size, 0, none⟩) n5 s5 ∧ Below W5.heap.size W5 WC) := ⟨hss, hb⟩
              clear hss hb
              cases a5 with
              | none =>
                go_wp2_with fail
                go_meet
                case rel => exact ⟨_, _, rfl, HL5.out.2.2.2.2.2, ⟨HL5.out.1, HL5.out.2.1, HL5.out.2.2.1, HL5.out.2.2.2.1, HL5.out.2.2.2.2.1⟩, HB5.out⟩
              | some ad =>
                go_wp2_with fail
                go_meet
                case rel => exact ⟨_, _, rfl, HX.out.1, ⟨ss_below HX.out.2 HL5.out.1, ss_below HX.out.2 HL5.out.2.1, ss_below HX.out.2 HL5.out.2.2.1, ss_below HX.out.2 HL5.out.2.2.2.1, ss_below HX.out.2 HL5.out.2.2.2.2.1⟩, HB5.out.trans (HX.out.2.mono HB5.out.size)⟩
            case rest => as_aux_lemma =>
              obtain ⟨b5, d5, rfl, y5, ⟨z0, z1, z2, z3, z4⟩, hbx⟩ := hcut
              have HL6 : Hid (SS wc b0 n0 s0 ∧ SS wc b1 n1 s1 ∧ SS wc b2 n2 s2 ∧ SS wc b3 n3 s3 ∧ SS wc b4 n4 s4 ∧ SS wc b5 n5 s5) := ⟨z0, z1, z2, z3, z4, y5⟩
              have HB6 : Hid (Below w.heap.size w wc) := hbx
              clear HL5 HB5 hbx neq5 y5 z0 z1 z2 z3 z4
              obtain ⟨W6, hW⟩ : ∃ x, x = wc := ⟨_, rfl⟩
              subst hW
              have HT6 : Hid (Lst W6 (.slice b0 n0 d0) s0 ∧ Lst W6 (.slice b1 n1 d1) s1 ∧ Lst W6 (.slice b2 n2 d2) s2 ∧ Lst W6 (.slice b3 n3 d3) s3 ∧ Lst W6 (.slice b4 n4 d4) s4 ∧ Lst W6 (.slice b5 n5 d5) s5) := ⟨⟨_, _, _, rfl, HL6.out.1, m0, HA.out.1⟩, ⟨_, _, _, rfl, HL6.out.2.1, m1, HA.out.2.1⟩, ⟨_, _, _, rfl, HL6.out.2.2.1, m2, HA.out.2.2.1⟩, ⟨_, _, _, rfl, HL6.out.2.2.2.1, m3, HA.out.2.2.2.1⟩, ⟨_, _, _, rfl, HL6.out.2.2.2.2.1, m4, HA.out.2.2.2.2.1⟩, ⟨_, _, _, rfl, HL6.out.2.2.2.2.2, m5, HA.out.2.2.2.2.2⟩⟩
              clear HL6 HA
              go_wp2_with fail
              refine (changes_any _ _ _ b0 b1 b2 n0 n1 n2 d0 d1 d2 _ rfl rfl rfl).mono ?_
              rintro e wv ⟨rfl, rfl⟩
              go_wp2_with fail
              refine (changes_any _ _ _ b3 b4 b5 n3 n4 n5 d3 d4 d5 _ rfl rfl rfl).mono ?_
              rintro e wv ⟨rfl, rfl⟩
              go_wp2_with fail
              have hb7 : Below W6.heap.size W6 ((((W6.alloc (.cells #[.slice b0 n0 d0, .slice b1 n1 d1, .slice b2 n2 d2] 25)).alloc (.cells #[.slice b0 n0 d0, .slice b1 n1 d1, .slice b2 n2 d2] 25)).alloc (.cells #[.slice b3 n3 d3, .slice b4 n4 d4, .slice b5 n5 d5] 25)).alloc (.cells #[.slice b3 n3 d3, .slice b4 n4 d4, .slice b5 n5 d5] 25)) := (below3 W6 _ _ _).alloc (by simp; omega) _
              have HB7 : Hid (Below W6.heap.size W6 ((((W6.alloc (.cells #[.slice b0 n0 d0, .slice b1 n1 d1, .slice b2 n2 d2] 25)).alloc (.cells #[.slice b0 n0 d0, .slice b1 n1 d1, .slice b2 n2 d2] 25)).alloc (.cells #[.slice b3 n3 d3, .slice b4 n4 d4, .slice b5 n5 d5] 25)).alloc (.cells #[.slice b3 n3 d3, .slice b4 n4 d4, .slice b5 n5 d5] 25))) := hb7
              clear hb7
              refine (meet_any (.slice b0 n0 d0) (.slice b1 n1 d1) (.slice b2 n2 d2) (.slice b3 n3 d3) (.slice b4 n4 d4) (.slice b5 n5 d5) s0 s1 s2 s3 s4 s5 _ (lst_below HB7.out HT6.out.1) (lst_below HB7.out HT6.out.2.1) (lst_below HB7.out HT6.out.2.2.1) (lst_below HB7.out HT6.out.2.2.2.1) (lst_below HB7.out HT6.out.2.2.2.2.1) (lst_below HB7.out HT6.out.2.2.2.2.2)).mono ?_
              rintro e W8 ⟨rfl, hb⟩
              have HB8 : Hid (Below W6.heap.size W6 W8) := HB7.out.trans (hb.mono HB7.out.size)
              have xc8 := keepBox hb (A := W6.heap.size + 1) (c := #[.slice b0 n0 d0, .slice b1 n1 d1, .slice b2 n2 d2]) (by simp only [World.size_alloc]; omega) (by intro o; simp [go_sem])
              have xd8 := keepBox hb (A := W6.heap.size + 1 + 1 + 1) (c := #[.slice b3 n3 d3, .slice b4 n4 d4, .slice b5 n5 d5]) (by simp only [World.size_alloc]; omega) (by intro o; simp [go_sem])
              have zz := hb.size
              simp only [World.size_alloc] at zz
              have z8 : W6.heap.size + 1 + 1 + 1 < W8.heap.size := by omega
              clear zz hb HB7
              generalize hG : meet s0 s1 s2 s3 s4 s5 = G
              have HG : Hid (meet s0 s1 s2 s3 s4 s5 = G) := hG
              clear hG
              go_wp2_with fail
              refine (meet_any (.slice b3 n3 d3) (.slice b4 n4 d4) (.slice b5 n5 d5) (.slice b0 n0 d0) (.slice b1 n1 d1) (.slice b2 n2 d2) s3 s4 s5 s0 s1 s2 _ (lst_below HB8.out HT6.out.2.2.2.1) (lst_below HB8.out HT6.out.2.2.2.2.1) (lst_below HB8.out HT6.out.2.2.2.2.2) (lst_below HB8.out HT6.out.1) (lst_below HB8.out HT6.out.2.1) (lst_below HB8.out HT6.out.2.2.1)).mono ?_
              rw [meet_comm, HG.out]
              rintro e W9 ⟨rfl, hb⟩
              have HB9 : Hid (Below W6.heap.size W6 W9) := HB8.out.trans (hb.mono HB8.out.size)
              have XC : Hid (∀ o, W9.cell? ⟨W6.heap.size + 1, o, none⟩ = (#[.slice b0 n0 d0, .slice b1 n1 d1, .slice b2 n2 d2] : Array Value)[o]?) := keepBox hb (A := W6.heap.size + 1) (c := #[.slice b0 n0 d0, .slice b1 n1 d1, .slice b2 n2 d2]) (by omega) xc8
              have zc : W6.heap.size + 1 < W9.heap.size := by have := hb.size; omega
              clear hb HB8 xc8 xd8 z8
              have HT9 : Hid (Lst W9 (.slice b0 n0 d0) s0 ∧ Lst W9 (.slice b1 n1 d1) s1 ∧ Lst W9 (.slice b2 n2 d2) s2 ∧ Lst W9 (.slice b3 n3 d3) s3 ∧ Lst W9 (.slice b4 n4 d4) s4 ∧ Lst W9 (.slice b5 n5 d5) s5) := ⟨lst_below HB9.out HT6.out.1, lst_below HB9.out HT6.out.2.1, lst_below HB9.out HT6.out.2.2.1, lst_below HB9.out HT6.out.2.2.2.1, lst_below HB9.out HT6.out.2.2.2.2.1, lst_below HB9.out HT6.out.2.2.2.2.2⟩
              have BW : Hid (Below w.heap.size w W9) := HB6.out.trans (HB9.out.mono HB6.out.size)
              clear HT6 HB6 HB9
              generalize W6.heap.size + 1 = C at *
              go_wp2_with fail
              go_loopw [22, 23] (fun mt i w' => ∃ k : Nat, k ≤ n3 ∧ i = .int .i64 k ∧ mt = .bool (any2 s0 s1 (s3.take k)) ∧ Below W9.heap.size W9 w') (fun _ i _ => n3 - (intOf i).toNat)
              case atStart => exact ⟨0, Nat.zero_le _, rfl, by simp [any2], Below.refl _ _⟩
              case round =>
                obtain ⟨k, hk, rfl, rfl, hb⟩ := hrel
                have HB : Hid (Below W9.heap.size W9 wr) := hb
                clear hb
                by_cases hlt : k < n3
                · as_aux_lemma =>
                  obtain ⟨x, bb, off, hx, mx, e1, hbz, hc⟩ := ss_at (ss_of (lst_below HB.out HT9.out.2.2.2.1)) k hlt
                  subst e1
                  have Hx : Hid (s3[k]? = some x) := hx
                  have HMX : Hid (x.size ≤ maxLen) := mx
                  have xcr := keepBox HB.out (A := C) (c := #[.slice b0 n0 d0, .slice b1 n1 d1, .slice b2 n2 d2]) zc XC.out
                  have zcr : C < wr.heap.size := Nat.lt_of_lt_of_le zc HB.out.size
                  have zcr1 : C < wr.heap.size + 1 := by omega
                  have zcr1' : C ≤ wr.heap.size := by omega
                  have zcr2 : C < wr.heap.size + 1 + 1 := by omega
                  clear hx mx
                  cases hm0 : mem x s0 with
                  | true =>
                    go_wp2_with fail
                    refine (holds_any b0 n0 d0 x s0 _ (ss_of (lst_below HB.out HT9.out.1))).mono ?_
                    rw [hm0]
                    rintro e wv ⟨rfl, hv⟩
                    obtain rfl := hv.symm
                    clear hv
                    go_wp2_with fail
                    refine (changes_any _ _ _ (some ⟨wr.heap.size, 0, none⟩) none none 1 0 0 1 0 0 _ rfl rfl rfl).mono ?_
                    rintro e wv ⟨rfl, rfl⟩
                    have hb3 : Below wr.heap.size wr (((wr.alloc (.cells #[.string x] 9)).alloc (.cells #[.slice (some ⟨wr.heap.size, 0, none⟩) 1 1, .slice none 0 0, .slice none 0 0] 25)).alloc (.cells #[.slice (some ⟨wr.heap.size, 0, none⟩) 1 1, .slice none 0 0, .slice none 0 0] 25)) := below3 wr _ _ _
                    have HB3 : Hid (Below W9.heap.size W9 (((wr.alloc (.cells #[.string x] 9)).alloc (.cells #[.slice (some ⟨wr.heap.size, 0, none⟩) 1 1, .slice none 0 0, .slice none 0 0] 25)).alloc (.cells #[.slice (some ⟨wr.heap.size, 0, none⟩) 1 1, .slice none 0 0, .slice none 0 0] 25))) := HB.out.trans (hb3.mono HB.out.size)
                    have HO : Hid (Lst (((wr.alloc (.cells #[.string x] 9)).alloc (.cells #[.slice (some ⟨wr.heap.size, 0, none⟩) 1 1, .slice none 0 0, .slice none 0 0] 25)).alloc (.cells #[.slice (some ⟨wr.heap.size, 0, none⟩) 1 1, .slice none 0 0, .slice none 0 0] 25)) (.slice (some ⟨wr.heap.size, 0, none⟩) 1 1) [x]) := lst_below (((Below.refl _ _).alloc (Nat.le_refl _) _).alloc (by simp) _) (lst_one wr x HMX.out)
                    clear hb3
                    go_wp2_with fail
                    refine (meet_any (.slice b0 n0 d0) (.slice b1 n1 d1) (.slice b2 n2 d2) (.slice (some ⟨wr.heap.size, 0, none⟩) 1 1) (.slice none 0 0) (.slice none 0 0) s0 s1 s2 [x] [] [] _ (lst_below HB3.out HT9.out.1) (lst_below HB3.out HT9.out.2.1) (lst_below HB3.out HT9.out.2.2.1) HO.out (lst_nil _) (lst_nil _)).mono ?_
                    rw [show meet s0 s1 s2 [x] [] [] = true from by rw [one1]; simp only [hm0]; rfl]
                    rintro e wm ⟨rfl, hb⟩
                    have HB4 : Hid (Below W9.heap.size W9 wm) := HB3.out.trans (hb.mono HB3.out.size)
                    replace HO : Hid (Lst wm (.slice (some ⟨wr.heap.size, 0, none⟩) 1 1) [x]) := lst_below hb HO.out
                    have xo := keepBox hb (A := wr.heap.size + 1 + 1) (c := #[.slice (some ⟨wr.heap.size, 0, none⟩) 1 1, .slice none 0 0, .slice none 0 0]) (by simp only [World.size_alloc]; omega) (by intro o; simp [go_sem])
                    have xc := keepBox HB4.out (A := C) (c := #[.slice b0 n0 d0, .slice b1 n1 d1, .slice b2 n2 d2]) zc XC.out
                    clear hb HB3 xcr
                    go_wp2_with fail
                    refine (meet_any (.slice (some ⟨wr.heap.size, 0, none⟩) 1 1) (.slice none 0 0) (.slice none 0 0) (.slice b0 n0 d0) (.slice b1 n1 d1) (.slice b2 n2 d2) [x] [] [] s0 s1 s2 _ HO.out (lst_nil _) (lst_nil _) (lst_below HB4.out HT9.out.1) (lst_below HB4.out HT9.out.2.1) (lst_below HB4.out HT9.out.2.2.1)).mono ?_
                    rw [meet_comm, show meet s0 s1 s2 [x] [] [] = true from by rw [one1]; simp only [hm0]; rfl]
                    rintro e wn ⟨rfl, hb⟩
                    have HB5 : Hid (Below W9.heap.size W9 wn) := HB4.out.trans (hb.mono HB4.out.size)
                    clear hb HB4 xo xc HO
                    have HN : Hid (any2 s0 s1 (s3.take (k + 1)) = true) := by show any2 s0 s1 (s3.take (k + 1)) = true; rw [any2_snoc Hx.out]; simp [hm0]
                    clear hm0
                    go_wp2_with fail
                    exact ⟨⟨k + 1, by omega, by go_num, by rw [HN.out], HB5.out⟩, by simp [intOf]; omega⟩
                  | false =>
                    cases hm1 : mem x s1 with
                    | true =>
                      go_wp2_with fail
                      refine (holds_any b0 n0 d0 x s0 _ (ss_of (lst_below HB.out HT9.out.1))).mono ?_
                      rw [hm0]
                      rintro e wv ⟨rfl, hv⟩
                      obtain rfl := hv.symm
                      clear hv
                      go_wp2_with fail
                      refine (holds_any b1 n1 d1 x s1 _ (ss_of (lst_below HB.out HT9.out.2.1))).mono ?_
                      rw [hm1]
                      rintro e wv ⟨rfl, hv⟩
                      obtain rfl := hv.symm
                      clear hv
                      go_wp2_with fail
                      refine (changes_any _ _ _ (some ⟨wr.heap.size, 0, none⟩) none none 1 0 0 1 0 0 _ rfl rfl rfl).mono ?_
                      rintro e wv ⟨rfl, rfl⟩
                      have hb3 : Below wr.heap.size wr (((wr.alloc (.cells #[.string x] 9)).alloc (.cells #[.slice (some ⟨wr.heap.size, 0, none⟩) 1 1, .slice none 0 0, .slice none 0 0] 25)).alloc (.cells #[.slice (some ⟨wr.heap.size, 0, none⟩) 1 1, .slice none 0 0, .slice none 0 0] 25)) := below3 wr _ _ _
                      have HB3 : Hid (Below W9.heap.size W9 (((wr.alloc (.cells #[.string x] 9)).alloc (.cells #[.slice (some ⟨wr.heap.size, 0, none⟩) 1 1, .slice none 0 0, .slice none 0 0] 25)).alloc (.cells #[.slice (some ⟨wr.heap.size, 0, none⟩) 1 1, .slice none 0 0, .slice none 0 0] 25))) := HB.out.trans (hb3.mono HB.out.size)
                      have HO : Hid (Lst (((wr.alloc (.cells #[.string x] 9)).alloc (.cells #[.slice (some ⟨wr.heap.size, 0, none⟩) 1 1, .slice none 0 0, .slice none 0 0] 25)).alloc (.cells #[.slice (some ⟨wr.heap.size, 0, none⟩) 1 1, .slice none 0 0, .slice none 0 0] 25)) (.slice (some ⟨wr.heap.size, 0, none⟩) 1 1) [x]) := lst_below (((Below.refl _ _).alloc (Nat.le_refl _) _).alloc (by simp) _) (lst_one wr x HMX.out)
                      clear hb3
                      go_wp2_with fail
                      refine (meet_any (.slice b0 n0 d0) (.slice b1 n1 d1) (.slice b2 n2 d2) (.slice (some ⟨wr.heap.size, 0, none⟩) 1 1) (.slice none 0 0) (.slice none 0 0) s0 s1 s2 [x] [] [] _ (lst_below HB3.out HT9.out.1) (lst_below HB3.out HT9.out.2.1) (lst_below HB3.out HT9.out.2.2.1) HO.out (lst_nil _) (lst_nil _)).mono ?_
                      rw [show meet s0 s1 s2 [x] [] [] = true from by rw [one1]; simp only [hm0, hm1]; rfl]
                      rintro e wm ⟨rfl, hb⟩
                      have HB4 : Hid (Below W9.heap.size W9 wm) := HB3.out.trans (hb.mono HB3.out.size)
                      replace HO : Hid (Lst wm (.slice (some ⟨wr.heap.size, 0, none⟩) 1 1) [x]) := lst_below hb HO.out
                      have xo := keepBox hb (A := wr.heap.size + 1 + 1) (c := #[.slice (some ⟨wr.heap.size, 0, none⟩) 1 1, .slice none 0 0, .slice none 0 0]) (by simp only [World.size_alloc]; omega) (by intro o; simp [go_sem])
                      have xc := keepBox HB4.out (A := C) (c := #[.slice b0 n0 d0, .slice b1 n1 d1, .slice b2 n2 d2]) zc XC.out
                      clear hb HB3 xcr
                      go_wp2_with fail
                      refine (meet_any (.slice (some ⟨wr.heap.size, 0, none⟩) 1 1) (.slice none 0 0) (.slice none 0 0) (.slice b0 n0 d0) (.slice b1 n1 d1) (.slice b2 n2 d2) [x] [] [] s0 s1 s2 _ HO.out (lst_nil _) (lst_nil _) (lst_below HB4.out HT9.out.1) (lst_below HB4.out HT9.out.2.1) (lst_below HB4.out HT9.out.2.2.1)).mono ?_
                      rw [meet_comm, show meet s0 s1 s2 [x] [] [] = true from by rw [one1]; simp only [hm0, hm1]; rfl]
                      rintro e wn ⟨rfl, hb⟩
                      have HB5 : Hid (Below W9.heap.size W9 wn) := HB4.out.trans (hb.mono HB4.out.size)
                      clear hb HB4 xo xc HO
                      have HN : Hid (any2 s0 s1 (s3.take (k + 1)) = true) := by show any2 s0 s1 (s3.take (k + 1)) = true; rw [any2_snoc Hx.out]; simp [hm0, hm1]
                      clear hm0 hm1
                      go_wp2_with fail
                      exact ⟨⟨k + 1, by omega, by go_num, by rw [HN.out], HB5.out⟩, by simp [intOf]; omega⟩
                    | false =>
                      go_wp2_with fail
                      refine (holds_any b0 n0 d0 x s0 _ (ss_of (lst_below HB.out HT9.out.1))).mono ?_
                      rw [hm0]
                      rintro e wv ⟨rfl, hv⟩
                      obtain rfl := hv.symm
                      clear hv
                      go_wp2_with fail
                      refine (holds_any b1 n1 d1 x s1 _ (ss_of (lst_below HB.out HT9.out.2.1))).mono ?_
                      rw [hm1]
                      rintro e wv ⟨rfl, hv⟩
                      obtain rfl := hv.symm
                      clear hv
                      go_wp2_with fail
                      refine (changes_any _ _ _ (some ⟨wr.heap.size, 0, none⟩) none none 1 0 0 1 0 0 _ rfl rfl rfl).mono ?_
                      rintro e wv ⟨rfl, rfl⟩
                      have hb3 : Below wr.heap.size wr (((wr.alloc (.cells #[.string x] 9)).alloc (.cells #[.slice (some ⟨wr.heap.size, 0, none⟩) 1 1, .slice none 0 0, .slice none 0 0] 25)).alloc (.cells #[.slice (some ⟨wr.heap.size, 0, none⟩) 1 1, .slice none 0 0, .slice none 0 0] 25)) := below3 wr _ _ _
                      have HB3 : Hid (Below W9.heap.size W9 (((wr.alloc (.cells #[.string x] 9)).alloc (.cells #[.slice (some ⟨wr.heap.size, 0, none⟩) 1 1, .slice none 0 0, .slice none 0 0] 25)).alloc (.cells #[.slice (some ⟨wr.heap.size, 0, none⟩) 1 1, .slice none 0 0, .slice none 0 0] 25))) := HB.out.trans (hb3.mono HB.out.size)
                      have HO : Hid (Lst (((wr.alloc (.cells #[.string x] 9)).alloc (.cells #[.slice (some ⟨wr.heap.size, 0, none⟩) 1 1, .slice none 0 0, .slice none 0 0] 25)).alloc (.cells #[.slice (some ⟨wr.heap.size, 0, none⟩) 1 1, .slice none 0 0, .slice none 0 0] 25)) (.slice (some ⟨wr.heap.size, 0, none⟩) 1 1) [x]) := lst_below (((Below.refl _ _).alloc (Nat.le_refl _) _).alloc (by simp) _) (lst_one wr x HMX.out)
                      clear hb3
                      go_wp2_with fail
                      refine (meet_any (.slice b0 n0 d0) (.slice b1 n1 d1) (.slice b2 n2 d2) (.slice (some ⟨wr.heap.size, 0, none⟩) 1 1) (.slice none 0 0) (.slice none 0 0) s0 s1 s2 [x] [] [] _ (lst_below HB3.out HT9.out.1) (lst_below HB3.out HT9.out.2.1) (lst_below HB3.out HT9.out.2.2.1) HO.out (lst_nil _) (lst_nil _)).mono ?_
                      rw [show meet s0 s1 s2 [x] [] [] = false from by rw [one1]; simp only [hm0, hm1]; rfl]
                      rintro e wm ⟨rfl, hb⟩
                      have HB4 : Hid (Below W9.heap.size W9 wm) := HB3.out.trans (hb.mono HB3.out.size)
                      replace HO : Hid (Lst wm (.slice (some ⟨wr.heap.size, 0, none⟩) 1 1) [x]) := lst_below hb HO.out
                      have xo := keepBox hb (A := wr.heap.size + 1 + 1) (c := #[.slice (some ⟨wr.heap.size, 0, none⟩) 1 1, .slice none 0 0, .slice none 0 0]) (by simp only [World.size_alloc]; omega) (by intro o; simp [go_sem])
                      have xc := keepBox HB4.out (A := C) (c := #[.slice b0 n0 d0, .slice b1 n1 d1, .slice b2 n2 d2]) zc XC.out
                      clear hb HB3 xcr
                      go_wp2_with fail
                      refine (meet_any (.slice (some ⟨wr.heap.size, 0, none⟩) 1 1) (.slice none 0 0) (.slice none 0 0) (.slice b0 n0 d0) (.slice b1 n1 d1) (.slice b2 n2 d2) [x] [] [] s0 s1 s2 _ HO.out (lst_nil _) (lst_nil _) (lst_below HB4.out HT9.out.1) (lst_below HB4.out HT9.out.2.1) (lst_below HB4.out HT9.out.2.2.1)).mono ?_
                      rw [meet_comm, show meet s0 s1 s2 [x] [] [] = false from by rw [one1]; simp only [hm0, hm1]; rfl]
                      rintro e wn ⟨rfl, hb⟩
                      have HB5 : Hid (Below W9.heap.size W9 wn) := HB4.out.trans (hb.mono HB4.out.size)
                      clear hb HB4 xo xc HO
                      have HN : Hid (any2 s0 s1 (s3.take (k + 1)) = any2 s0 s1 (s3.take k)) := by show any2 s0 s1 (s3.take (k + 1)) = _; rw [any2_snoc Hx.out]; simp [hm0, hm1]
                      clear hm0 hm1
                      go_wp2_with fail
                      exact ⟨⟨k + 1, by omega, by go_num, by rw [HN.out], HB5.out⟩, by simp [intOf]; omega⟩
                · have hke : k = n3 := by omega
                  subst hke
                  have etk : s3.take k = s3 := List.take_of_length_le (by have := (ss_of HT9.out.2.2.2.1).1; omega)
                  rw [etk]
                  clear etk hlt hk
                  go_wp2_with fail
                  go_loopw [22, 27] (fun mt i w' => ∃ k : Nat, k ≤ n4 ∧ i = .int .i64 k ∧ mt = .bool ((any2 s0 s1 s3 || any2 s0 s2 (s4.take k))) ∧ Below W9.heap.size W9 w') (fun _ i _ => n4 - (intOf i).toNat)
                  case atStart => exact ⟨0, Nat.zero_le _, rfl, by simp [any2], HB.out⟩
                  case round =>
                    clear HB
                    obtain ⟨k, hk, rfl, rfl, hb⟩ := hrel
                    have HB : Hid (Below W9.heap.size W9 wr) := hb
                    clear hb
                    by_cases hlt : k < n4
                    · as_aux_lemma =>
                      obtain ⟨x, bb, off, hx, mx, e1, hbz, hc⟩ := ss_at (ss_of (lst_below HB.out HT9.out.2.2.2.2.1)) k hlt
                      subst e1
                      have Hx : Hid (s4[k]? = some x) := hx
                      have HMX : Hid (x.size ≤ maxLen) := mx
                      have xcr := keepBox HB.out (A := C) (c := #[.slice b0 n0 d0, .slice b1 n1 d1, .slice b2 n2 d2]) zc XC.out
                      have zcr : C < wr.heap.size := Nat.lt_of_lt_of_le zc HB.out.size
                      have zcr1 : C < wr.heap.size + 1 := by omega
                      have zcr1' : C ≤ wr.heap.size := by omega
                      have zcr2 : C < wr.heap.size + 1 + 1 := by omega
                      clear hx mx
                      cases hm0 : mem x s0 with
                      | true =>
                        go_wp2_with fail
                        refine (holds_any b0 n0 d0 x s0 _ (ss_of (lst_below HB.out HT9.out.1))).mono ?_
                        rw [hm0]
                        rintro e wv ⟨rfl, hv⟩
                        obtain rfl := hv.symm
                        clear hv
                        go_wp2_with fail
                        refine (changes_any _ _ _ none (some ⟨wr.heap.size, 0, none⟩) none 0 1 0 0 1 0 _ rfl rfl rfl).mono ?_
                        rintro e wv ⟨rfl, rfl⟩
                        have hb3 : Below wr.heap.size wr (((wr.alloc (.cells #[.string x] 9)).alloc (.cells #[.slice none 0 0, .slice (some ⟨wr.heap.size, 0, none⟩) 1 1, .slice none 0 0] 25)).alloc (.cells #[.slice none 0 0, .slice (some ⟨wr.heap.size, 0, none⟩) 1 1, .slice none 0 0] 25)) := below3 wr _ _ _
                        have HB3 : Hid (Below W9.heap.size W9 (((wr.alloc (.cells #[.string x] 9)).alloc (.cells #[.slice none 0 0, .slice (some ⟨wr.heap.size, 0, none⟩) 1 1, .slice none 0 0] 25)).alloc (.cells #[.slice none 0 0, .slice (some ⟨wr.heap.size, 0, none⟩) 1 1, .slice none 0 0] 25))) := HB.out.trans (hb3.mono HB.out.size)
                        have HO : Hid (Lst (((wr.alloc (.cells #[.string x] 9)).alloc (.cells #[.slice none 0 0, .slice (some ⟨wr.heap.size, 0, none⟩) 1 1, .slice none 0 0] 25)).alloc (.cells #[.slice none 0 0, .slice (some ⟨wr.heap.size, 0, none⟩) 1 1, .slice none 0 0] 25)) (.slice (some ⟨wr.heap.size, 0, none⟩) 1 1) [x]) := lst_below (((Below.refl _ _).alloc (Nat.le_refl _) _).alloc (by simp) _) (lst_one wr x HMX.out)
                        clear hb3
                        go_wp2_with fail
                        refine (meet_any (.slice b0 n0 d0) (.slice b1 n1 d1) (.slice b2 n2 d2) (.slice none 0 0) (.slice (some ⟨wr.heap.size, 0, none⟩) 1 1) (.slice none 0 0) s0 s1 s2 [] [x] [] _ (lst_below HB3.out HT9.out.1) (lst_below HB3.out HT9.out.2.1) (lst_below HB3.out HT9.out.2.2.1) (lst_nil _) HO.out (lst_nil _)).mono ?_
                        rw [show meet s0 s1 s2 [] [x] [] = true from by rw [one2]; simp only [hm0]; rfl]
                        rintro e wm ⟨rfl, hb⟩
                        have HB4 : Hid (Below W9.heap.size W9 wm) := HB3.out.trans (hb.mono HB3.out.size)
                        replace HO : Hid (Lst wm (.slice (some ⟨wr.heap.size, 0, none⟩) 1 1) [x]) := lst_below hb HO.out
                        have xo := keepBox hb (A := wr.heap.size + 1 + 1) (c := #[.slice none 0 0, .slice (some ⟨wr.heap.size, 0, none⟩) 1 1, .slice none 0 0]) (by simp only [World.size_alloc]; omega) (by intro o; simp [go_sem])
                        have xc := keepBox HB4.out (A := C) (c := #[.slice b0 n0 d0, .slice b1 n1 d1, .slice b2 n2 d2]) zc XC.out
                        clear hb HB3 xcr
                        go_wp2_with fail
                        refine (meet_any (.slice none 0 0) (.slice (some ⟨wr.heap.size, 0, none⟩) 1 1) (.slice none 0 0) (.slice b0 n0 d0) (.slice b1 n1 d1) (.slice b2 n2 d2) [] [x] [] s0 s1 s2 _ (lst_nil _) HO.out (lst_nil _) (lst_below HB4.out HT9.out.1) (lst_below HB4.out HT9.out.2.1) (lst_below HB4.out HT9.out.2.2.1)).mono ?_
                        rw [meet_comm, show meet s0 s1 s2 [] [x] [] = true from by rw [one2]; simp only [hm0]; rfl]
                        rintro e wn ⟨rfl, hb⟩
                        have HB5 : Hid (Below W9.heap.size W9 wn) := HB4.out.trans (hb.mono HB4.out.size)
                        clear hb HB4 xo xc HO
                        have HN : Hid ((any2 s0 s1 s3 || any2 s0 s2 (s4.take (k + 1))) = true) := by show (any2 s0 s1 s3 || any2 s0 s2 (s4.take (k + 1))) = true; rw [any2_snoc Hx.out]; simp [hm0]
                        clear hm0
                        go_wp2_with fail
                        exact ⟨⟨k + 1, by omega, by go_num, by rw [HN.out], HB5.out⟩, by simp [intOf]; omega⟩
                      | false =>
                        cases hm2 : mem x s2 with
                        | true =>
                          go_wp2_with fail
                          refine (holds_any b0 n0 d0 x s0 _ (ss_of (lst_below HB.out HT9.out.1))).mono ?_
                          rw [hm0]
                          rintro e wv ⟨rfl, hv⟩
                          obtain rfl := hv.symm
                          clear hv
                          go_wp2_with fail
                          refine (holds_any b2 n2 d2 x s2 _ (ss_of (lst_below HB.out HT9.out.2.2.1))).mono ?_
                          rw [hm2]
                          rintro e wv ⟨rfl, hv⟩
                          obtain rfl := hv.symm
                          clear hv
                          go_wp2_with fail
                          refine (changes_any _ _ _ none (some ⟨wr.heap.size, 0, none⟩) none 0 1 0 0 1 0 _ rfl rfl rfl).mono ?_
                          rintro e wv ⟨rfl, rfl⟩
                          have hb3 : Below wr.heap.size wr (((wr.alloc (.cells #[.string x] 9)).alloc (.cells #[.slice none 0 0, .slice (some ⟨wr.heap.size, 0, none⟩) 1 1, .slice none 0 0] 25)).alloc (.cells #[.slice none 0 0, .slice (some ⟨wr.heap.size, 0, none⟩) 1 1, .slice none 0 0] 25)) := below3 wr _ _ _
                          have HB3 : Hid (Below W9.heap.size W9 (((wr.alloc (.cells #[.string x] 9)).alloc (.cells #[.slice none 0 0, .slice (some ⟨wr.heap.size, 0, none⟩) 1 1, .slice none 0 0] 25)).alloc (.cells #[.slice none 0 0, .slice (some ⟨wr.heap.size, 0, none⟩) 1 1, .slice none 0 0] 25))) := HB.out.trans (hb3.mono HB.out.size)
                          have HO : Hid (Lst (((wr.alloc (.cells #[.string x] 9)).alloc (.cells #[.slice none 0 0, .slice (some ⟨wr.heap.size, 0, none⟩) 1 1, .slice none 0 0] 25)).alloc (.cells #[.slice none 0 0, .slice (some ⟨wr.heap.size, 0, none⟩) 1 1, .slice none 0 0] 25)) (.slice (some ⟨wr.heap.size, 0, none⟩) 1 1) [x]) := lst_below (((Below.refl _ _).alloc (Nat.le_refl _) _).alloc (by simp) _) (lst_one wr x HMX.out)
                          clear hb3
                          go_wp2_with fail
                          refine (meet_any (.slice b0 n0 d0) (.slice b1 n1 d1) (.slice b2 n2 d2) (.slice none 0 0) (.slice (some ⟨wr.heap.size, 0, none⟩) 1 1) (.slice none 0 0) s0 s1 s2 [] [x] [] _ (lst_below HB3.out HT9.out.1) (lst_below HB3.out HT9.out.2.1) (lst_below HB3.out HT9.out.2.2.1) (lst_nil _) HO.out (lst_nil _)).mono ?_
                          rw [show meet s0 s1 s2 [] [x] [] = true from by rw [one2]; simp only [hm0, hm2]; rfl]
                          rintro e wm ⟨rfl, hb⟩
                          have HB4 : Hid (Below W9.heap.size W9 wm) := HB3.out.trans (hb.mono HB3.out.size)
                          replace HO : Hid (Lst wm (.slice (some ⟨wr.heap.size, 0, none⟩) 1 1) [x]) := lst_below hb HO.out
                          have xo := keepBox hb (A := wr.heap.size + 1 + 1) (c := #[.slice none 0 0, .slice (some ⟨wr.heap.size, 0, none⟩) 1 1, .slice none 0 0]) (by simp only [World.size_alloc]; omega) (by intro o; simp [go_sem])
                          have xc := keepBox HB4.out (A := C) (c := #[.slice b0 n0 d0, .slice b1 n1 d1, .slice b2 n2 d2]) zc XC.out
                          clear hb HB3 xcr
                          go_wp2_with fail
                          refine (meet_any (.slice none 0 0) (.slice (some ⟨wr.heap.size, 0, none⟩) 1 1) (.slice none 0 0) (.slice b0 n0 d0) (.slice b1 n1 d1) (.slice b2 n2 d2) [] [x] [] s0 s1 s2 _ (lst_nil _) HO.out (lst_nil _) (lst_below HB4.out HT9.out.1) (lst_below HB4.out HT9.out.2.1) (lst_below HB4.out HT9.out.2.2.1)).mono ?_
                          rw [meet_comm, show meet s0 s1 s2 [] [x] [] = true from by rw [one2]; simp only [hm0, hm2]; rfl]
                          rintro e wn ⟨rfl, hb⟩
                          have HB5 : Hid (Below W9.heap.size W9 wn) := HB4.out.trans (hb.mono HB4.out.size)
                          clear hb HB4 xo xc HO
                          have HN : Hid ((any2 s0 s1 s3 || any2 s0 s2 (s4.take (k + 1))) = true) := by show (any2 s0 s1 s3 || any2 s0 s2 (s4.take (k + 1))) = true; rw [any2_snoc Hx.out]; simp [hm0, hm2]
                          clear hm0 hm2
                          go_wp2_with fail
                          exact ⟨⟨k + 1, by omega, by go_num, by rw [HN.out], HB5.out⟩, by simp [intOf]; omega⟩
                        | false =>
                          go_wp2_with fail
                          refine (holds_any b0 n0 d0 x s0 _ (ss_of (lst_below HB.out HT9.out.1))).mono ?_
                          rw [hm0]
                          rintro e wv ⟨rfl, hv⟩
                          obtain rfl := hv.symm
                          clear hv
                          go_wp2_with fail
                          refine (holds_any b2 n2 d2 x s2 _ (ss_of (lst_below HB.out HT9.out.2.2.1))).mono ?_
                          rw [hm2]
                          rintro e wv ⟨rfl, hv⟩
                          obtain rfl := hv.symm
                          clear hv
                          go_wp2_with fail
                          refine (changes_any _ _ _ none (some ⟨wr.heap.size, 0, none⟩) none 0 1 0 0 1 0 _ rfl rfl rfl).mono ?_
                          rintro e wv ⟨rfl, rfl⟩
                          have hb3 : Below wr.heap.size wr (((wr.alloc (.cells #[.string x] 9)).alloc (.cells #[.slice none 0 0, .slice (some ⟨wr.heap.size, 0, none⟩) 1 1, .slice none 0 0] 25)).alloc (.cells #[.slice none 0 0, .slice (some ⟨wr.heap.size, 0, none⟩) 1 1, .slice none 0 0] 25)) := below3 wr _ _ _
                          have HB3 : Hid (Below W9.heap.size W9 (((wr.alloc (.cells #[.string x] 9)).alloc (.cells #[.slice none 0 0, .slice (some ⟨wr.heap.size, 0, none⟩) 1 1, .slice none 0 0] 25)).alloc (.cells #[.slice none 0 0, .slice (some ⟨wr.heap.size, 0, none⟩) 1 1, .slice none 0 0] 25))) := HB.out.trans (hb3.mono HB.out.size)
                          have HO : Hid (Lst (((wr.alloc (.cells #[.string x] 9)).alloc (.cells #[.slice none 0 0, .slice (some ⟨wr.heap.size, 0, none⟩) 1 1, .slice none 0 0] 25)).alloc (.cells #[.slice none 0 0, .slice (some ⟨wr.heap.size, 0, none⟩) 1 1, .slice none 0 0] 25)) (.slice (some ⟨wr.heap.size, 0, none⟩) 1 1) [x]) := lst_below (((Below.refl _ _).alloc (Nat.le_refl _) _).alloc (by simp) _) (lst_one wr x HMX.out)
                          clear hb3
                          go_wp2_with fail
                          refine (meet_any (.slice b0 n0 d0) (.slice b1 n1 d1) (.slice b2 n2 d2) (.slice none 0 0) (.slice (some ⟨wr.heap.size, 0, none⟩) 1 1) (.slice none 0 0) s0 s1 s2 [] [x] [] _ (lst_below HB3.out HT9.out.1) (lst_below HB3.out HT9.out.2.1) (lst_below HB3.out HT9.out.2.2.1) (lst_nil _) HO.out (lst_nil _)).mono ?_
                          rw [show meet s0 s1 s2 [] [x] [] = false from by rw [one2]; simp only [hm0, hm2]; rfl]
                          rintro e wm ⟨rfl, hb⟩
                          have HB4 : Hid (Below W9.heap.size W9 wm) := HB3.out.trans (hb.mono HB3.out.size)
                          replace HO : Hid (Lst wm (.slice (some ⟨wr.heap.size, 0, none⟩) 1 1) [x]) := lst_below hb HO.out
                          have xo := keepBox hb (A := wr.heap.size + 1 + 1) (c := #[.slice none 0 0, .slice (some ⟨wr.heap.size, 0, none⟩) 1 1, .slice none 0 0]) (by simp only [World.size_alloc]; omega) (by intro o; simp [go_sem])
                          have xc := keepBox HB4.out (A := C) (c := #[.slice b0 n0 d0, .slice b1 n1 d1, .slice b2 n2 d2]) zc XC.out
                          clear hb HB3 xcr
                          go_wp2_with fail
                          refine (meet_any (.slice none 0 0) (.slice (some ⟨wr.heap.size, 0, none⟩) 1 1) (.slice none 0 0) (.slice b0 n0 d0) (.slice b1 n1 d1) (.slice b2 n2 d2) [] [x] [] s0 s1 s2 _ (lst_nil _) HO.out (lst_nil _) (lst_below HB4.out HT9.out.1) (lst_below HB4.out HT9.out.2.1) (lst_below HB4.out HT9.out.2.2.1)).mono ?_
                          rw [meet_comm, show meet s0 s1 s2 [] [x] [] = false from by rw [one2]; simp only [hm0, hm2]; rfl]
                          rintro e wn ⟨rfl, hb⟩
                          have HB5 : Hid (Below W9.heap.size W9 wn) := HB4.out.trans (hb.mono HB4.out.size)
                          clear hb HB4 xo xc HO
                          have HN : Hid ((any2 s0 s1 s3 || any2 s0 s2 (s4.take (k + 1))) = (any2 s0 s1 s3 || any2 s0 s2 (s4.take k))) := by show (any2 s0 s1 s3 || any2 s0 s2 (s4.take (k + 1))) = _; rw [any2_snoc Hx.out]; simp [hm0, hm2]
                          clear hm0 hm2
                          go_wp2_with fail
                          exact ⟨⟨k + 1, by omega, by go_num, by rw [HN.out], HB5.out⟩, by simp [intOf]; omega⟩
                    · have hke : k = n4 := by omega
                      subst hke
                      have etk : s4.take k = s4 := List.take_of_length_le (by have := (ss_of HT9.out.2.2.2.2.1).1; omega)
                      rw [etk]
                      clear etk hlt hk
                      go_wp2_with fail
                      go_loopw [22, 31] (fun mt i w' => ∃ k : Nat, k ≤ n5 ∧ i = .int .i64 k ∧ mt = .bool (((any2 s0 s1 s3 || any2 s0 s2 s4) || any1 s1 (s5.take k))) ∧ Below W9.heap.size W9 w') (fun _ i _ => n5 - (intOf i).toNat)
                      case atStart => exact ⟨0, Nat.zero_le _, rfl, by simp [any1], HB.out⟩
                      case round =>
                        clear HB
                        obtain ⟨k, hk, rfl, rfl, hb⟩ := hrel
                        have HB : Hid (Below W9.heap.size W9 wr) := hb
                        clear hb
                        by_cases hlt : k < n5
                        · as_aux_lemma =>
                          obtain ⟨x, bb, off, hx, mx, e1, hbz, hc⟩ := ss_at (ss_of (lst_below HB.out HT9.out.2.2.2.2.2)) k hlt
                          subst e1
                          have Hx : Hid (s5[k]? = some x) := hx
                          have HMX : Hid (x.size ≤ maxLen) := mx
                          have xcr := keepBox HB.out (A := C) (c := #[.slice b0 n0 d0, .slice b1 n1 d1, .slice b2 n2 d2]) zc XC.out
                          have zcr : C < wr.heap.size := Nat.lt_of_lt_of_le zc HB.out.size
                          have zcr1 : C < wr.heap.size + 1 := by omega
                          have zcr1' : C ≤ wr.heap.size := by omega
                          have zcr2 : C < wr.heap.size + 1 + 1 := by omega
                          clear hx mx
                          cases hm1 : mem x s1 with
                          | true =>
                            go_wp2_with fail
                            refine (holds_any b1 n1 d1 x s1 _ (ss_of (lst_below HB.out HT9.out.2.1))).mono ?_
                            rw [hm1]
                            rintro e wv ⟨rfl, hv⟩
                            obtain rfl := hv.symm
                            clear hv
                            go_wp2_with fail
                            refine (changes_any _ _ _ none none (some ⟨wr.heap.size, 0, none⟩) 0 0 1 0 0 1 _ rfl rfl rfl).mono ?_
                            rintro e wv ⟨rfl, rfl⟩
                            have hb3 : Below wr.heap.size wr (((wr.alloc (.cells #[.string x] 9)).alloc (.cells #[.slice none 0 0, .slice none 0 0, .slice (some ⟨wr.heap.size, 0, none⟩) 1 1] 25)).alloc (.cells #[.slice none 0 0, .slice none 0 0, .slice (some ⟨wr.heap.size, 0, none⟩) 1 1] 25)) := below3 wr _ _ _
                            have HB3 : Hid (Below W9.heap.size W9 (((wr.alloc (.cells #[.string x] 9)).alloc (.cells #[.slice none 0 0, .slice none 0 0, .slice (some ⟨wr.heap.size, 0, none⟩) 1 1] 25)).alloc (.cells #[.slice none 0 0, .slice none 0 0, .slice (some ⟨wr.heap.size, 0, none⟩) 1 1] 25))) := HB.out.trans (hb3.mono HB.out.size)
                            have HO : Hid (Lst (((wr.alloc (.cells #[.string x] 9)).alloc (.cells #[.slice none 0 0, .slice none 0 0, .slice (some ⟨wr.heap.size, 0, none⟩) 1 1] 25)).alloc (.cells #[.slice none 0 0, .slice none 0 0, .slice (some ⟨wr.heap.size, 0, none⟩) 1 1] 25)) (.slice (some ⟨wr.heap.size, 0, none⟩) 1 1) [x]) := lst_below (((Below.refl _ _).alloc (Nat.le_refl _) _).alloc (by simp) _) (lst_one wr x HMX.out)
                            clear hb3
                            go_wp2_with fail
                            refine (meet_any (.slice b0 n0 d0) (.slice b1 n1 d1) (.slice b2 n2 d2) (.slice none 0 0) (.slice none 0 0) (.slice (some ⟨wr.heap.size, 0, none⟩) 1 1) s0 s1 s2 [] [] [x] _ (lst_below HB3.out HT9.out.1) (lst_below HB3.out HT9.out.2.1) (lst_below HB3.out HT9.out.2.2.1) (lst_nil _) (lst_nil _) HO.out).mono ?_
                            rw [show meet s0 s1 s2 [] [] [x] = true from by rw [one3, hm1]]
                            rintro e wm ⟨rfl, hb⟩
                            have HB4 : Hid (Below W9.heap.size W9 wm) := HB3.out.trans (hb.mono HB3.out.size)
                            replace HO : Hid (Lst wm (.slice (some ⟨wr.heap.size, 0, none⟩) 1 1) [x]) := lst_below hb HO.out
                            have xo := keepBox hb (A := wr.heap.size + 1 + 1) (c := #[.slice none 0 0, .slice none 0 0, .slice (some ⟨wr.heap.size, 0, none⟩) 1 1]) (by simp only [World.size_alloc]; omega) (by intro o; simp [go_sem])
                            have xc := keepBox HB4.out (A := C) (c := #[.slice b0 n0 d0, .slice b1 n1 d1, .slice b2 n2 d2]) zc XC.out
                            clear hb HB3 xcr
                            go_wp2_with fail
                            refine (meet_any (.slice none 0 0) (.slice none 0 0) (.slice (some ⟨wr.heap.size, 0, none⟩) 1 1) (.slice b0 n0 d0) (.slice b1 n1 d1) (.slice b2 n2 d2) [] [] [x] s0 s1 s2 _ (lst_nil _) (lst_nil _) HO.out (lst_below HB4.out HT9.out.1) (lst_below HB4.out HT9.out.2.1) (lst_below HB4.out HT9.out.2.2.1)).mono ?_
                            rw [meet_comm, show meet s0 s1 s2 [] [] [x] = true from by rw [one3, hm1]]
                            rintro e wn ⟨rfl, hb⟩
                            have HB5 : Hid (Below W9.heap.size W9 wn) := HB4.out.trans (hb.mono HB4.out.size)
                            clear hb HB4 xo xc HO
                            have HN : Hid (((any2 s0 s1 s3 || any2 s0 s2 s4) || any1 s1 (s5.take (k + 1))) = true) := by show ((any2 s0 s1 s3 || any2 s0 s2 s4) || any1 s1 (s5.take (k + 1))) = true; rw [any1_snoc Hx.out]; simp [hm1]
                            clear hm1
                            go_wp2_with fail
                            exact ⟨⟨k + 1, by omega, by go_num, by rw [HN.out], HB5.out⟩, by simp [intOf]; omega⟩
                          | false =>
                            go_wp2_with fail
                            refine (holds_any b1 n1 d1 x s1 _ (ss_of (lst_below HB.out HT9.out.2.1))).mono ?_
                            rw [hm1]
                            rintro e wv ⟨rfl, hv⟩
                            obtain rfl := hv.symm
                            clear hv
                            go_wp2_with fail
                            refine (changes_any _ _ _ none none (some ⟨wr.heap.size, 0, none⟩) 0 0 1 0 0 1 _ rfl rfl rfl).mono ?_
                            rintro e wv ⟨rfl, rfl⟩
                            have hb3 : Below wr.heap.size wr (((wr.alloc (.cells #[.string x] 9)).alloc (.cells #[.slice none 0 0, .slice none 0 0, .slice (some ⟨wr.heap.size, 0, none⟩) 1 1] 25)).alloc (.cells #[.slice none 0 0, .slice none 0 0, .slice (some ⟨wr.heap.size, 0, none⟩) 1 1] 25)) := below3 wr _ _ _
                            have HB3 : Hid (Below W9.heap.size W9 (((wr.alloc (.cells #[.string x] 9)).alloc (.cells #[.slice none 0 0, .slice none 0 0, .slice (some ⟨wr.heap.size, 0, none⟩) 1 1] 25)).alloc (.cells #[.slice none 0 0, .slice none 0 0, .slice (some ⟨wr.heap.size, 0, none⟩) 1 1] 25))) := HB.out.trans (hb3.mono HB.out.size)
                            have HO : Hid (Lst (((wr.alloc (.cells #[.string x] 9)).alloc (.cells #[.slice none 0 0, .slice none 0 0, .slice (some ⟨wr.heap.size, 0, none⟩) 1 1] 25)).alloc (.cells #[.slice none 0 0, .slice none 0 0, .slice (some ⟨wr.heap.size, 0, none⟩) 1 1] 25)) (.slice (some ⟨wr.heap.size, 0, none⟩) 1 1) [x]) := lst_below (((Below.refl _ _).alloc (Nat.le_refl _) _).alloc (by simp) _) (lst_one wr x HMX.out)
                            clear hb3
                            go_wp2_with fail
                            refine (meet_any (.slice b0 n0 d0) (.slice b1 n1 d1) (.slice b2 n2 d2) (.slice none 0 0) (.slice none 0 0) (.slice (some ⟨wr.heap.size, 0, none⟩) 1 1) s0 s1 s2 [] [] [x] _ (lst_below HB3.out HT9.out.1) (lst_below HB3.out HT9.out.2.1) (lst_below HB3.out HT9.out.2.2.1) (lst_nil _) (lst_nil _) HO.out).mono ?_
                            rw [show meet s0 s1 s2 [] [] [x] = false from by rw [one3, hm1]]
                            rintro e wm ⟨rfl, hb⟩
                            have HB4 : Hid (Below W9.heap.size W9 wm) := HB3.out.trans (hb.mono HB3.out.size)
                            replace HO : Hid (Lst wm (.slice (some ⟨wr.heap.size, 0, none⟩) 1 1) [x]) := lst_below hb HO.out
                            have xo := keepBox hb (A := wr.heap.size + 1 + 1) (c := #[.slice none 0 0, .slice none 0 0, .slice (some ⟨wr.heap.size, 0, none⟩) 1 1]) (by simp only [World.size_alloc]; omega) (by intro o; simp [go_sem])
                            have xc := keepBox HB4.out (A := C) (c := #[.slice b0 n0 d0, .slice b1 n1 d1, .slice b2 n2 d2]) zc XC.out
                            clear hb HB3 xcr
                            go_wp2_with fail
                            refine (meet_any (.slice none 0 0) (.slice none 0 0) (.slice (some ⟨wr.heap.size, 0, none⟩) 1 1) (.slice b0 n0 d0) (.slice b1 n1 d1) (.slice b2 n2 d2) [] [] [x] s0 s1 s2 _ (lst_nil _) (lst_nil _) HO.out (lst_below HB4.out HT9.out.1) (lst_below HB4.out HT9.out.2.1) (lst_below HB4.out HT9.out.2.2.1)).mono ?_
                            rw [meet_comm, show meet s0 s1 s2 [] [] [x] = false from by rw [one3, hm1]]
                            rintro e wn ⟨rfl, hb⟩
                            have HB5 : Hid (Below W9.heap.size W9 wn) := HB4.out.trans (hb.mono HB4.out.size)
                            clear hb HB4 xo xc HO
                            have HN : Hid (((any2 s0 s1 s3 || any2 s0 s2 s4) || any1 s1 (s5.take (k + 1))) = ((any2 s0 s1 s3 || any2 s0 s2 s4) || any1 s1 (s5.take k))) := by show ((any2 s0 s1 s3 || any2 s0 s2 s4) || any1 s1 (s5.take (k + 1))) = _; rw [any1_snoc Hx.out]; simp [hm1]
                            clear hm1
                            go_wp2_with fail
                            exact ⟨⟨k + 1, by omega, by go_num, by rw [HN.out], HB5.out⟩, by simp [intOf]; omega⟩
                        · have hke : k = n5 := by omega
                          subst hke
                          have etk : s5.take k = s5 := List.take_of_length_le (by have := (ss_of HT9.out.2.2.2.2.2).1; omega)
                          rw [etk]
                          clear etk hlt hk
                          have hfin : (G == ((any2 s0 s1 s3 || any2 s0 s2 s4) || any1 s1 s5)) = true := by rw [← HG.out, meet_eq]; simp [Bool.or_assoc]
                          go_wp2_with fail
                          go_ret
                          exact ⟨rfl, BW.out.trans (HB.out.mono BW.out.size)⟩
end Go.Proofs.Qxb6616724a
