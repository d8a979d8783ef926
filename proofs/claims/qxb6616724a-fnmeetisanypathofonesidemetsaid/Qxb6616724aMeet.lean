import Derived.Test.Qxb6616724aSorted
namespace Go.Proofs.Qxb6616724a
open Go.RowKit

/-- a list of paths as the law holds it: where it lies, what it holds, that it ascends and is short -/
def Lst (w : World) (v : Value) (ss : List ByteArray) : Prop := ∃ a n c, v = .slice a n c ∧ SS w a n ss ∧ n ≤ 4096 ∧ Asc ss
theorem lst_below {w w' : World} {v : Value} {ss : List ByteArray} (hb : Below w.heap.size w w') (h : Lst w v ss) : Lst w' v ss := by
  obtain ⟨a, n, c, e, h1, h2, h3⟩ := h
  exact ⟨a, n, c, e, ss_below hb h1, h2, h3⟩
theorem share_lst {w : World} {u v : Value} {xs ys : List ByteArray} (hu : Lst w u xs) (hv : Lst w v ys) : Calls Try.prog 14 #[u, v] w fun e w' => e = .returned (.bool (shr xs ys)) ∧ Below w.heap.size w w' := by
  obtain ⟨a, n, c, rfl, h1, h2, h3⟩ := hu
  obtain ⟨a', n', c', rfl, h1', h2', h3'⟩ := hv
  exact share_any a a' n n' c c' xs ys w h1 h1' h2 h2' h3 h3'

/-- Meet -/
def meet (cf cd cr df dd dr : List ByteArray) : Bool := shr cf df || (shr cf dd || (shr cd df || (shr cr dd || shr cd dr)))

theorem keepBox {W w' : World} (hb : Below W.heap.size W w') {A : Nat} {c : Array Value} (hA : A < W.heap.size) (h : ∀ o, W.cell? ⟨A, o, none⟩ = c[o]?) :
    ∀ o, w'.cell? ⟨A, o, none⟩ = c[o]? := fun o => (hb.cell (p := ⟨A, o, none⟩) hA).trans (h o)

set_option maxRecDepth 100000 in
set_option maxHeartbeats 4000000 in
theorem meet_any (v0 v1 v2 v3 v4 v5 : Value) (cf cd cr df dd dr : List ByteArray) (w : World) (h0 : Lst w v0 cf) (h1 : Lst w v1 cd) (h2 : Lst w v2 cr) (h3 : Lst w v3 df) (h4 : Lst w v4 dd) (h5 : Lst w v5 dr) :
    Calls Try.prog 9 #[.agg #[v0, v1, v2], .agg #[v3, v4, v5]] w fun e w' => e = .returned (.bool (meet cf cd cr df dd dr)) ∧ Below w.heap.size w w' := by
  have HW : Hid (Lst w v0 cf ∧ Lst w v1 cd ∧ Lst w v2 cr ∧ Lst w v3 df ∧ Lst w v4 dd ∧ Lst w v5 dr) := ⟨h0, h1, h2, h3, h4, h5⟩
  have hb0 : Below w.heap.size w ((w.alloc (.cells #[v0, v1, v2] 25)).alloc (.cells #[v3, v4, v5] 25)) := ((Below.refl _ _).alloc (Nat.le_refl _) _).alloc (by simp) _
  have HB0 : Hid (Below w.heap.size w ((w.alloc (.cells #[v0, v1, v2] 25)).alloc (.cells #[v3, v4, v5] 25))) := hb0
  obtain ⟨a0, n0, k0, e0, _⟩ := h0
  obtain ⟨a1, n1, k1, e1, _⟩ := h1
  obtain ⟨a2, n2, k2, e2, _⟩ := h2
  obtain ⟨a3, n3, k3, e3, _⟩ := h3
  obtain ⟨a4, n4, k4, e4, _⟩ := h4
  obtain ⟨a5, n5, k5, e5, _⟩ := h5
  subst e0 e1 e2 e3 e4 e5
  clear hb0
  go_enter Try.func9, Try.ntmps9
  go_wp2_with fail
  refine (share_lst (lst_below HB0.out HW.out.1) (lst_below HB0.out HW.out.2.2.2.1)).mono ?_
  rintro e w1 ⟨rfl, hb⟩
  have HB1 : Hid (Below w.heap.size w w1) := HB0.out.trans (hb.mono HB0.out.size)
  have x0_0 := keepBox hb (A := w.heap.size) (c := #[.slice a0 n0 k0, .slice a1 n1 k1, .slice a2 n2 k2]) (by simp only [World.size_alloc]; omega) (by intro o; simp [go_sem])
  have x1_0 := keepBox hb (A := w.heap.size + 1) (c := #[.slice a3 n3 k3, .slice a4 n4 k4, .slice a5 n5 k5]) (by simp only [World.size_alloc]; omega) (by intro o; simp [go_sem])
  have zz := hb.size
  try simp only [World.size_alloc] at zz
  have y00 : w.heap.size < w1.heap.size := by omega
  have y10 : w.heap.size + 1 < w1.heap.size := by omega
  clear zz
  clear hb
  cases hr0 : shr cf df with
  | true =>
    have HF : Hid (meet cf cd cr df dd dr = true) := by show meet cf cd cr df dd dr = true; simp [meet, hr0]
    clear hr0
    go_wp2_with fail
    go_ret
    exact ⟨by rw [HF.out]; rfl, HB1.out⟩
  | false =>
    have HR0 : Hid (shr cf df = false) := hr0
    clear hr0
    have hr0 := HR0
    clear HR0
    go_wp2_with fail
    refine (share_lst (lst_below HB1.out HW.out.1) (lst_below HB1.out HW.out.2.2.2.2.1)).mono ?_
    rintro e w2 ⟨rfl, hb⟩
    have HB2 : Hid (Below w.heap.size w w2) := HB1.out.trans (hb.mono HB1.out.size)
    have x0_1 := keepBox hb (A := w.heap.size) (c := #[.slice a0 n0 k0, .slice a1 n1 k1, .slice a2 n2 k2]) (by omega) x0_0
    have x1_1 := keepBox hb (A := w.heap.size + 1) (c := #[.slice a3 n3 k3, .slice a4 n4 k4, .slice a5 n5 k5]) (by omega) x1_0
    clear x0_0 x1_0
    have zz := hb.size
    try simp only [World.size_alloc] at zz
    have y01 : w.heap.size < w2.heap.size := by omega
    have y11 : w.heap.size + 1 < w2.heap.size := by omega
    clear y00 y10
    clear zz
    clear hb
    cases hr1 : shr cf dd with
    | true =>
      have HF : Hid (meet cf cd cr df dd dr = true) := by show meet cf cd cr df dd dr = true; simp [meet, hr0.out, hr1]
      clear hr0 hr1
      go_wp2_with fail
      go_ret
      exact ⟨by rw [HF.out]; rfl, HB2.out⟩
    | false =>
      have HR1 : Hid (shr cf dd = false) := hr1
      clear hr1
      have hr1 := HR1
      clear HR1
      go_wp2_with fail
      refine (share_lst (lst_below HB2.out HW.out.2.1) (lst_below HB2.out HW.out.2.2.2.1)).mono ?_
      rintro e w3 ⟨rfl, hb⟩
      have HB3 : Hid (Below w.heap.size w w3) := HB2.out.trans (hb.mono HB2.out.size)
      have x0_2 := keepBox hb (A := w.heap.size) (c := #[.slice a0 n0 k0, .slice a1 n1 k1, .slice a2 n2 k2]) (by omega) x0_1
      have x1_2 := keepBox hb (A := w.heap.size + 1) (c := #[.slice a3 n3 k3, .slice a4 n4 k4, .slice a5 n5 k5]) (by omega) x1_1
      clear x0_1 x1_1
      have zz := hb.size
      try simp only [World.size_alloc] at zz
      have y02 : w.heap.size < w3.heap.size := by omega
      have y12 : w.heap.size + 1 < w3.heap.size := by omega
      clear y01 y11
      clear zz
      clear hb
      cases hr2 : shr cd df with
      | true =>
        have HF : Hid (meet cf cd cr df dd dr = true) := by show meet cf cd cr df dd dr = true; simp [meet, hr0.out, hr1.out, hr2]
        clear hr0 hr1 hr2
        go_wp2_with fail
        go_ret
        exact ⟨by rw [HF.out]; rfl, HB3.out⟩
      | false =>
        have HR2 : Hid (shr cd df = false) := hr2
        clear hr2
        have hr2 := HR2
        clear HR2
        go_wp2_with fail
        refine (share_lst (lst_below HB3.out HW.out.2.2.1) (lst_below HB3.out HW.out.2.2.2.2.1)).mono ?_
        rintro e w4 ⟨rfl, hb⟩
        have HB4 : Hid (Below w.heap.size w w4) := HB3.out.trans (hb.mono HB3.out.size)
        have x0_3 := keepBox hb (A := w.heap.size) (c := #[.slice a0 n0 k0, .slice a1 n1 k1, .slice a2 n2 k2]) (by omega) x0_2
        have x1_3 := keepBox hb (A := w.heap.size + 1) (c := #[.slice a3 n3 k3, .slice a4 n4 k4, .slice a5 n5 k5]) (by omega) x1_2
        clear x0_2 x1_2
        have zz := hb.size
        try simp only [World.size_alloc] at zz
        have y03 : w.heap.size < w4.heap.size := by omega
        have y13 : w.heap.size + 1 < w4.heap.size := by omega
        clear y02 y12
        clear zz
        clear hb
        cases hr3 : shr cr dd with
        | true =>
          have HF : Hid (meet cf cd cr df dd dr = true) := by show meet cf cd cr df dd dr = true; simp [meet, hr0.out, hr1.out, hr2.out, hr3]
          clear hr0 hr1 hr2 hr3
          go_wp2_with fail
          go_ret
          exact ⟨by rw [HF.out]; rfl, HB4.out⟩
        | false =>
          have HR3 : Hid (shr cr dd = false) := hr3
          clear hr3
          have hr3 := HR3
          clear HR3
          go_wp2_with fail
          refine (share_lst (lst_below HB4.out HW.out.2.1) (lst_below HB4.out HW.out.2.2.2.2.2)).mono ?_
          rintro e w5 ⟨rfl, hb⟩
          have HB5 : Hid (Below w.heap.size w w5) := HB4.out.trans (hb.mono HB4.out.size)
          clear x0_3 x1_3 y03 y13
          clear hb
          cases hr4 : shr cd dr with
          | true =>
            have HF : Hid (meet cf cd cr df dd dr = true) := by show meet cf cd cr df dd dr = true; simp [meet, hr0.out, hr1.out, hr2.out, hr3.out, hr4]
            clear hr0 hr1 hr2 hr3 hr4
            go_wp2_with fail
            go_ret
            exact ⟨by rw [HF.out]; rfl, HB5.out⟩
          | false =>
            have HF : Hid (meet cf cd cr df dd dr = false) := by show meet cf cd cr df dd dr = false; simp [meet, hr0.out, hr1.out, hr2.out, hr3.out, hr4]
            clear hr0 hr1 hr2 hr3 hr4
            go_wp2_with fail
            go_ret
            exact ⟨by rw [HF.out]; rfl, HB5.out⟩
end Go.Proofs.Qxb6616724a
