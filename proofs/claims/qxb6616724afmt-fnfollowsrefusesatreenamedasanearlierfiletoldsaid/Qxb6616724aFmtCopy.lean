import Derived.Test.Qxb6616724aFmtValid
import Derived.Deep.OwnRows
import Derived.Lib.SliceRun
namespace Go.Proofs.Qxb6616724aFmt
open Go.RowKit

theorem Tryf.info5 : (Tryf.prog.info? 5).map (fun i => (i.zero, i.size, i.bytes)) = some (some (.int .u8 0), 1, 1) := by kernel_rfl
theorem Tryf.info30 : (Tryf.prog.info? 30).map (fun i => (i.zero, i.size, i.bytes)) = some (some (.slice none 0 0), 1, 24) := by kernel_rfl
theorem Tryf.size5 : (Tryf.prog.info? 5).map (·.size) = some 1 := by kernel_rfl
theorem make_bytes (n : Nat) (hm : n ≤ 1048576) (w : World) : (Instr.makeSlice 30 (.int .i64 n) (.int .i64 n)).run Tryf.prog w = .ok (.slice (some ⟨w.heap.size, 0, none⟩) n n) (w.alloc (.cells (madeCells #[.int .u8 0] n) 5)) :=
  run_make_row' (P := Tryf.prog) 30 5 (.int .u8 0) 1 Tryf.underlying30 Tryf.info5 rfl .i64 .i64 n (by omega) (by omega) w
theorem make_names (n : Nat) (hm : n ≤ 1048576) (w : World) : (Instr.makeSlice 22 (.int .i64 n) (.int .i64 n)).run Tryf.prog w = .ok (.slice (some ⟨w.heap.size, 0, none⟩) n n) (w.alloc (.cells (madeCells #[.slice none 0 0] n) 30)) :=
  run_make_row' (P := Tryf.prog) 22 30 (.slice none 0 0) 24 Tryf.underlying22 Tryf.info30 rfl .i64 .i64 n (by omega) (by omega) w

theorem below_setCells {B g : Nat} {a : World} (hg : B ≤ g) : ∀ (vs : List Value) (o : Nat) (w : World), Below B a w → Below B a (w.setCells g o vs)
  | [], _, _, h => h
  | v :: vs, o, w, h => by
    rw [World.setCells]
    exact below_setCells hg vs (o + 1) _ (h.setCell (p := ⟨g, o, none⟩) hg v)

/-- the copy of a name -/
theorem copy_bytes (a : Option Addr) (n c : Nat) (xs : List Int) (w : World) (hS : BS w a n c xs) (h0 : 0 < n) (hn : n ≤ 1048576) :
    ∃ W2, (∀ ty, (Builtin.copy_ #[30, 30] ty #[.slice (some ⟨w.heap.size, 0, none⟩) n n, .slice a n c]).run Tryf.prog (w.alloc (.cells (madeCells #[.int .u8 0] n) 5)) = .ok (goInt n) W2) ∧ BS W2 (some ⟨w.heap.size, 0, none⟩) n n xs ∧ Below w.heap.size w W2 ∧ w.heap.size < W2.heap.size := by
  have hb1 : Below w.heap.size w (w.alloc (.cells (madeCells #[.int .u8 0] n) 5)) := (Below.refl _ _).alloc (Nat.le_refl _) _
  obtain ⟨_, b, off, _, _, ea, _⟩ := bs_at hS 0 h0
  subst ea
  have hl : (xs.map (Value.int .u8)).length = n := by simp [hS.1]
  have hthere : ∀ j, j < (xs.map (Value.int .u8)).length → ((w.alloc (.cells (madeCells #[.int .u8 0] n) 5)).cell? ⟨w.heap.size, 0 + j, none⟩).isSome = true := by
    intro j hj
    have := size_madeCells #[Value.int .u8 0] n
    simp [this]
    omega
  have hsz : w.heap.size < ((w.alloc (.cells (madeCells #[.int .u8 0] n) 5)).setCells w.heap.size 0 (xs.map (Value.int .u8))).heap.size := by
    have h1 := (below_setCells (B := 0) (g := w.heap.size) (a := w.alloc (.cells (madeCells #[.int .u8 0] n) 5)) (Nat.zero_le _) (xs.map (Value.int .u8)) 0 _ (Below.refl _ _)).size
    simp at h1
    omega
  have hmax : n ≤ maxLen := by unfold maxLen; omega
  refine ⟨(w.alloc (.cells (madeCells #[.int .u8 0] n) 5)).setCells w.heap.size 0 (xs.map (Value.int .u8)), fun ty => ?_, ⟨hS.1, Nat.le_refl _, hmax, fun i s hs => ⟨(hS.2.2.2 i s hs).1, w.heap.size, 0, rfl, hsz, ?_⟩⟩, below_setCells (Nat.le_refl _) _ _ _ hb1, hsz⟩
  · have hr := run_copy_cells (P := Tryf.prog) (w.alloc (.cells (madeCells #[.int .u8 0] n) 5)) 30 30 ty 5 w.heap.size 0 n n ⟨b, off, none⟩ n c (xs.map (Value.int .u8)) Tryf.underlying30 Tryf.size5 (by rw [hl]; simp) ?_ hthere ?_ ?_
    · rw [hr, hl]
    · intro j v hv
      obtain ⟨s, hs, rfl⟩ := by simpa using hv
      obtain ⟨_, b', off', e, hbz, hc⟩ := hS.2.2.2 j s hs
      cases e
      have e : (⟨b, off, none⟩ : Addr).add j = ⟨b, off + j, none⟩ := by unfold Addr.add; split <;> simp_all
      rw [e]
      exact (hb1.cell (p := ⟨b, off + j, none⟩) hbz).trans hc
    · intro j _
      simp
    · intro v hv
      obtain ⟨s, _, rfl⟩ := List.mem_map.1 hv
      rfl
  · have hil : i < (xs.map (Value.int .u8)).length := by
      rcases Nat.lt_or_ge i xs.length with h | h
      · simpa using h
      · rw [List.getElem?_eq_none h] at hs; cases hs
    have := World.cell?_setCells_in w.heap.size (xs.map (Value.int .u8)) 0 (w.alloc (.cells (madeCells #[.int .u8 0] n) 5)) hthere i hil
    rw [this]
    have hsv : (xs.map (Value.int .u8))[i]? = some (.int .u8 s) := by simp [hs]
    rw [List.getElem?_eq_getElem hil] at hsv
    exact hsv

/-- a store into another block leaves a name as it was -/
theorem bs_set {w : World} {b off n c : Nat} {xs : List Int} {O k : Nat} (v : Value) (h : BS w (some ⟨b, off, none⟩) n c xs) (hne : b ≠ O) : BS (w.setCell ⟨O, k, none⟩ v) (some ⟨b, off, none⟩) n c xs := by
  refine ⟨h.1, h.2.1, h.2.2.1, fun i s hs => ?_⟩
  obtain ⟨h1, b', off', e, h3, h4⟩ := h.2.2.2 i s hs
  cases e
  refine ⟨h1, b, off, rfl, ?_, ?_⟩
  · have := (Below.setCell (B := 0) (Below.refl 0 w) (p := ⟨O, k, none⟩) (Nat.zero_le _) v).size
    omega
  · rw [World.cell?_of_block (w := w) (Go.Deep.blk_setCell_other _ _ _ _ (by simpa using hne))]
    exact h4
/-- the copies made so far: k of them, each in a block behind O -/
def Copies (w : World) (O : Nat) (vs us : List NV) : Prop := us.length ≤ vs.length ∧ ∀ (t : Nat) (u : NV), us[t]? = some u → ∃ v b, vs[t]? = some v ∧ u.xs = v.xs ∧ u.a = some ⟨b, 0, none⟩ ∧ O < b ∧ u.n ≤ 1048576 ∧ BS w u.a u.n u.c u.xs
theorem copies_below {w w' : World} {O : Nat} {vs us : List NV} (hb : Below w.heap.size w w') (h : Copies w O vs us) : Copies w' O vs us := by
  refine ⟨h.1, fun t u hu => ?_⟩
  obtain ⟨v, b, h1, h2, h3, h4, h5, h6⟩ := h.2 t u hu
  exact ⟨v, b, h1, h2, h3, h4, h5, bs_below hb h6⟩
theorem copies_set {w : World} {O k : Nat} {vs us : List NV} (x : Value) (h : Copies w O vs us) : Copies (w.setCell ⟨O, k, none⟩ x) O vs us := by
  refine ⟨h.1, fun t u hu => ?_⟩
  obtain ⟨v, b, h1, h2, h3, h4, h5, h6⟩ := h.2 t u hu
  refine ⟨v, b, h1, h2, h3, h4, h5, ?_⟩
  rw [h3] at h6 ⊢
  exact bs_set x h6 (by omega)

def mkNV (a : Option Addr) (n c : Nat) (xs : List Int) : NV := (a, n, c, xs)
def colO (us : List NV) (t : Nat) : Value := (us.map NV.val).getD t (.slice none 0 0)
theorem colO_snoc (us : List NV) (u : NV) (t : Nat) : colO (us ++ [u]) t = if t = us.length then u.val else colO us t := by
  unfold colO
  rcases Nat.lt_trichotomy t us.length with h | h | h
  · rw [if_neg (by omega)]
    simp [List.getD, List.getElem?_append_left, h]
  · subst h
    simp [List.getD]
  · rw [if_neg (by omega)]
    have h1 : (us.map NV.val)[t]? = none := List.getElem?_eq_none (by simp; omega)
    have h2 : ((us ++ [u]).map NV.val)[t]? = none := List.getElem?_eq_none (by simp; omega)
    rw [List.getD, List.getD, h1, h2]

/-- it returns a slice of copies -/
def IsC (w w' : World) (vs : List NV) (n : Nat) (e : Ending) : Prop := ∃ O us, e = .returned (.slice (some ⟨O, 0, none⟩) n n) ∧ us.length = n ∧ Copies w' O vs us ∧ NS w' (some ⟨O, 0, none⟩) n us ∧ Below w.heap.size w w'

set_option maxHeartbeats 4000000 in
theorem copy_any (a : Option Addr) (n c : Nat) (vs : List NV) (w : World) (hS : NS w a n vs) (h0 : 0 < n) (hn : n ≤ 1024) (hl : ∀ (i : Nat) (v : NV), vs[i]? = some v → v.n ≤ 1048576 ∧ v.xs ≠ []) :
    Calls Tryf.prog 7 #[.slice a n c] w fun e w' => IsC w w' vs n e := by
  obtain ⟨_, _, _, _, b, off, _, _, e1, _, _⟩ := ns_at hS 0 h0
  subst e1
  have HS : Hid (NS w (some ⟨b, off, none⟩) n vs ∧ ∀ (i : Nat) (v : NV), vs[i]? = some v → v.n ≤ 1048576 ∧ v.xs ≠ []) := ⟨hS, hl⟩
  clear hS hl
  have hmk := make_names n (by omega)
  have heq : ∀ wz : World, (binOp .eql 22 (.slice (some ⟨b, off, none⟩) n c) (.slice none 0 0)).run Tryf.prog wz = .ok (.bool false) wz := fun wz => Lib.run_eql_slice_nil (P := Tryf.prog) wz 22 30 (some ⟨b, off, none⟩) n c 0 0 Tryf.underlying22
  go_enter Tryf.func7, Tryf.ntmps7
  go_wp2_with fail
  go_loopw [4] (fun i w' => ∃ (k : Nat) (us : List NV), k ≤ n ∧ i = .int .i64 k ∧ us.length = k ∧ Copies w' w.heap.size vs us ∧ w'.rowIs w.heap.size 30 n (colO us) ∧ Below w.heap.size w w') (fun i _ => n - (intOf i).toNat)
  case atStart =>
    refine ⟨0, [], Nat.zero_le _, rfl, rfl, ⟨Nat.zero_le _, fun t u h => by simp at h⟩, ?_, (Below.refl _ _).alloc (Nat.le_refl _) _⟩
    exact (World.rowIs_made w (.slice none 0 0) n 30).congr (fun i _ => by simp [colO])
  case round =>
    obtain ⟨k, us, hk, rfl, hul, hC, hR, hB⟩ := hrel
    have HC : Hid (Copies wr w.heap.size vs us ∧ wr.rowIs w.heap.size 30 n (colO us) ∧ Below w.heap.size w wr ∧ us.length = k) := ⟨hC, hR, hB, hul⟩
    clear hC hR hB hul
    by_cases hlt : k < n
    · obtain ⟨d, m, cc, xs, b2, off2, hs, hB, e1, hbz, hc⟩ := ns_at (ns_below HC.out.2.2.1 HS.out.1) k hlt
      cases e1
      obtain ⟨hm, hx⟩ := HS.out.2 k _ hs
      replace hm : m ≤ 1048576 := hm
      have hm0 : 0 < m := by
        rcases Nat.eq_zero_or_pos m with h | h
        · exfalso
          have := hB.1
          have hx' : xs ≠ [] := hx
          apply hx'
          apply List.length_eq_zero_iff.1
          omega
        · exact h
      obtain ⟨_, b3, off3, _, _, e3, _⟩ := bs_at hB 0 hm0
      subst e3
      obtain ⟨W2, hcp, hbs, hbl, hsz⟩ := copy_bytes (some ⟨b3, off3, none⟩) m cc xs wr hB hm0 hm
      have hmb := make_bytes m hm
      have hOlt : w.heap.size < wr.heap.size := HC.out.2.1.lt
      have hR2 : W2.rowIs w.heap.size 30 n (colO us) := HC.out.2.1.of_block (hbl.block _ hOlt)
      have hcell := hR2.cell hlt
      have hfr := hR2.frozen k
      have hcW : wr.cell? ⟨b, off + k, none⟩ = some (.slice (some ⟨b3, off3, none⟩) m cc) := hc
      have hbz1 : b < wr.heap.size + 1 := by omega
      have HW : Hid (BS W2 (some ⟨wr.heap.size, 0, none⟩) m m xs ∧ Below wr.heap.size wr W2 ∧ wr.heap.size < W2.heap.size ∧ W2.rowIs w.heap.size 30 n (colO us) ∧ vs[k]? = some (some ⟨b3, off3, none⟩, m, cc, xs)) := ⟨hbs, hbl, hsz, hR2, hs⟩
      clear hbs hbl hsz hR2 hs hB hx
      have hneq : ∀ wz : World, (binOp .neq 30 (.slice (some ⟨b3, off3, none⟩) m cc) (.slice none 0 0)).run Tryf.prog wz = .ok (.bool true) wz := fun wz => run_neq_slice_nil_any (P := Tryf.prog) wz 30 5 (some ⟨b3, off3, none⟩) m cc 0 0 Tryf.underlying30
      go_wp2_with fail
      have e0 := HC.out.2.2.2
      have bw : Below w.heap.size w W2 := HC.out.2.2.1.trans (HW.out.2.1.mono (Nat.le_of_lt hOlt))
      refine ⟨⟨k + 1, us ++ [mkNV (some ⟨wr.heap.size, 0, none⟩) m m xs], by omega, by go_num, by simp [e0], ?_, ?_, bw.setCell (p := ⟨w.heap.size, k, none⟩) (Nat.le_refl _) _⟩, by simp [intOf]; omega⟩
      · refine ⟨?_, fun t u hu => ?_⟩
        · have := HS.out.1.1
          simp [e0]
          omega
        · rcases Nat.lt_or_ge t us.length with h | h
          · rw [List.getElem?_append_left h] at hu
            exact (copies_set (k := k) (.slice (some ⟨wr.heap.size, 0, none⟩) m m) (copies_below HW.out.2.1 HC.out.1)).2 t u hu
          · have ht : t = us.length := by
              have := (List.getElem?_eq_some_iff.1 hu).1
              simp at this
              omega
            subst ht
            simp at hu
            subst hu
            exact ⟨mkNV (some ⟨b3, off3, none⟩) m cc xs, wr.heap.size, by rw [e0]; exact HW.out.2.2.2.2, rfl, rfl, hOlt, hm, bs_set _ HW.out.1 (by omega)⟩
      · refine (HW.out.2.2.2.1.set k _).congr (fun i _ => ?_)
        rw [colO_snoc, e0]
        rfl
    · have hke : k = n := by omega
      subst hke
      have HF : Hid (IsC w wr vs k (.returned (.slice (some ⟨w.heap.size, 0, none⟩) k k))) := by
        refine ⟨w.heap.size, us, rfl, HC.out.2.2.2, HC.out.1, ⟨HC.out.2.2.2, HS.out.1.2.1, fun i v hv => ?_⟩, HC.out.2.2.1⟩
        obtain ⟨_, _, _, _, _, _, _, hb⟩ := HC.out.1.2 i v hv
        have hi : i < k := by
          have := (List.getElem?_eq_some_iff.1 hv).1
          have := HC.out.2.2.2
          omega
        refine ⟨hb, w.heap.size, 0, rfl, HC.out.2.1.lt, ?_⟩
        rw [Nat.zero_add, HC.out.2.1.cell hi]
        simp [colO, List.getD, hv]
      clear HC
      go_wp2_with fail
      go_ret
      exact HF.out
end Go.Proofs.Qxb6616724aFmt
