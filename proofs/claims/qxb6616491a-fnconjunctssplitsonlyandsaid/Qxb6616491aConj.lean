import Derived.Test.Qxb6616491aRows
import Derived.WalkKit
import Derived.WalkSpells
import Derived.WalkLawsBesides
import Derived.Deep.RegionHeld3
import Derived.Deep.RegionWith
import Derived.Deep.AppendLies
import Derived.Deep.Trees
namespace Go.Proofs.Qxb6616491a
open Go.RowKit Go.Deep

/-- is the operator AND? -/
def isAnd (op : ByteArray) : Bool := op.toList == [65, 78, 68]
/-- the interface value of an expression tree -/
def val : BT ByteArray → Value
  | .nil => .nilIface
  | .node b o _ _ _ => .iface 25 (.pointer (some ⟨b, o, none⟩))
/-- the tree lies in memory -/
def rep (w : World) : BT ByteArray → Prop
  | .nil => True
  | .node b o op l r => w.cell? ⟨b, o, none⟩ = some (.string op) ∧ w.cell? ⟨b, o + 1, none⟩ = some (val l) ∧ w.cell? ⟨b, o + 2, none⟩ = some (val r) ∧ b < w.heap.size ∧ rep w l ∧ rep w r
/-- the terms that AND joins -/
def conj : BT ByteArray → List Value
  | .nil => [.nilIface]
  | .node b o op l r => if isAnd op then conj l ++ conj r else [.iface 25 (.pointer (some ⟨b, o, none⟩))]

theorem rep_below {w w' : World} {B : Nat} (hb : Below B w w') (hB : w.heap.size ≤ B) : ∀ T : BT ByteArray, rep w T → rep w' T
  | .nil, _ => trivial
  | .node b o op l r, ⟨h1, h2, h3, h4, h5, h6⟩ => by
    have hlt : b < B := by omega
    exact ⟨(hb.cell (p := ⟨b, o, none⟩) hlt).trans h1, (hb.cell (p := ⟨b, o + 1, none⟩) hlt).trans h2, (hb.cell (p := ⟨b, o + 2, none⟩) hlt).trans h3, Nat.lt_of_lt_of_le h4 hb.size, rep_below hb hB l h5, rep_below hb hB r h6⟩
theorem rep_drew {w : World} : ∀ T : BT ByteArray, rep w T → rep w.drew T
  | .nil, _ => trivial
  | .node _ _ _ l r, ⟨h1, h2, h3, h4, h5, h6⟩ => ⟨h1, h2, h3, h4, rep_drew l h5, rep_drew r h6⟩
theorem conj_pos : ∀ T : BT ByteArray, 0 < (conj T).length
  | .nil => by simp [conj]
  | .node _ _ op l r => by
    unfold conj
    split
    · have := conj_pos l; simp; omega
    · simp
theorem conj_cell : ∀ T : BT ByteArray, ∀ u ∈ conj T, u.oneCell' = true
  | .nil => by simp [conj, Value.oneCell']
  | .node _ _ op l r => by
    unfold conj
    split
    · intro u hu
      rcases List.mem_append.1 hu with h | h
      · exact conj_cell l u h
      · exact conj_cell r u h
    · simp [Value.oneCell']

theorem ta_nil (w : World) : (Instr.typeAssert .nilIface 27 25 true).run Try.prog w = .ok (.tuple #[.pointer none, .bool false]) w := by kernel_rfl
theorem ta_bin (v : Value) (w : World) : (Instr.typeAssert (.iface 25 v) 27 25 true).run Try.prog w = .ok (.tuple #[v, .bool true]) w := by kernel_rfl

theorem conj_nil (w : World) :
    Calls Try.prog 16 #[.nilIface] w fun e w' => e = .returned (.slice (some ⟨w.heap.size, 0, none⟩) 1 1) ∧ w' = w.alloc (.cells #[.nilIface] 27) := by
  have t1 := ta_nil
  go_enter Try.func16, Try.ntmps16
  go_wp2_with fail
  go_ret
  exact ⟨rfl, rfl⟩

theorem conj_one (b o : Nat) (op : ByteArray) (w : World) (h : w.cell? ⟨b, o, none⟩ = some (.string op)) (hn : (op.toList == [65, 78, 68]) = false) :
    Calls Try.prog 16 #[.iface 25 (.pointer (some ⟨b, o, none⟩))] w fun e w' => e = .returned (.slice (some ⟨w.heap.size, 0, none⟩) 1 1) ∧ w' = w.alloc (.cells #[.iface 25 (.pointer (some ⟨b, o, none⟩))] 27) := by
  have t1 := ta_bin
  go_enter Try.func16, Try.ntmps16
  go_wp2_with fail
  go_ret
  exact ⟨rfl, rfl⟩

/-- what 'conjuncts' leaves: a slice of its own that holds the terms -/
def Gives (w : World) (xs : List Value) (e : Ending) (w' : World) : Prop :=
  ∃ g cap, e = .returned (.slice (some ⟨g, 0, none⟩) xs.length cap) ∧ w'.ownsRow w.heap.size 27 1 (.slice (some ⟨g, 0, none⟩) xs.length cap) xs.length xs ∧ Below w.heap.size w w' ∧ w.heap.size ≤ g ∧ g < w'.heap.size

theorem ownsRow_one (w : World) (v : Value) : (w.alloc (.cells #[v] 27)).ownsRow w.heap.size 27 1 (.slice (some ⟨w.heap.size, 0, none⟩) 1 1) 1 [v] :=
  World.ownsRow_lit w #[v] 1 (Nat.le_refl _) (by unfold maxLen; omega) rfl
theorem ownsRow_below {w w' : World} {base e size n : Nat} {v : Value} {xs : List Value} (h : w.ownsRow base e size v n xs) (hb : Below w.heap.size w w') : w'.ownsRow base e size v n xs := by
  refine ⟨h.1, ?_⟩
  rcases h.2 with hn | ⟨g, cap, cur, rfl, hbg, hgg, rest⟩
  · exact .inl hn
  · refine .inr ⟨g, cap, cur, rfl, hbg, ?_, rest⟩
    have hlt : g < w.heap.size := by
      rcases Nat.lt_or_ge g w.heap.size with hlt | hge
      · exact hlt
      · rw [Array.getElem?_eq_none hge] at hgg; cases hgg
    rw [hb.block g hlt]; exact hgg
theorem ownsRow_base {w : World} {base base' e size n : Nat} {v : Value} {xs : List Value} (h : w.ownsRow base e size v n xs) (hb : base' ≤ base) : w.ownsRow base' e size v n xs := by
  refine ⟨h.1, ?_⟩
  rcases h.2 with hn | ⟨g, cap, cur, rfl, hbg, hgg, rest⟩
  · exact .inl hn
  · exact .inr ⟨g, cap, cur, rfl, by omega, hgg, rest⟩

theorem Try.info27 : ∃ i, Try.prog.info? 27 = some i ∧ i.zero = some .nilIface ∧ i.size = 1 ∧ i.bytes = 16 := by
  have h : (Try.prog.info? 27).map (fun i => (i.zero, i.size, i.bytes)) = some (some .nilIface, 1, 16) := by kernel_rfl
  cases hi : Try.prog.info? 27 with
  | none => rw [hi] at h; cases h
  | some i => rw [hi] at h; simp at h; exact ⟨i, rfl, h.1, h.2.1, h.2.2⟩

theorem ne_own {b g n c N : Nat} (h : b < N) (k : N ≤ g) : some b ≠ Value.ownBlock (.slice (some ⟨g, 0, none⟩) n c) := by
  intro hh
  simp [Value.ownBlock] at hh
  omega

set_option maxHeartbeats 1000000 in
theorem conj_and (b o : Nat) (op : ByteArray) (vl vr : Value) (xl xr : List Value) (w : World) (h : w.cell? ⟨b, o, none⟩ = some (.string op)) (hn : (op.toList == [65, 78, 68]) = true) (hl : w.cell? ⟨b, o + 1, none⟩ = some vl) (hr : w.cell? ⟨b, o + 2, none⟩ = some vr) (hb : b < w.heap.size)
    (Hl : Hid (∀ w1, Below w.heap.size w w1 → Calls Try.prog 16 #[vl] w1 (Gives w1 xl))) (Hr : Hid (∀ w1, Below w.heap.size w w1 → Calls Try.prog 16 #[vr] w1 (Gives w1 xr))) (pr : 0 < xr.length) (hlen : xl.length + xr.length ≤ 1048576)
    (c1 : ∀ u ∈ xr, u.oneCell' = true) :
    Calls Try.prog 16 #[.iface 25 (.pointer (some ⟨b, o, none⟩))] w (Gives w (xl ++ xr)) := by
  have t1 := ta_bin
  obtain ⟨i27, ei, ez, es, eb⟩ := Try.info27
  go_enter Try.func16, Try.ntmps16
  go_wp2_with fail
  have tokL : True := trivial
  have tokR : True := trivial
  go_region_held3 (fun w' => w'.cell? ⟨b, o + 1, none⟩ = some vl ∧ w'.cell? ⟨b, o + 2, none⟩ = some vr) (simp [go_sem, *])
    (first
      | (refine step_append_lies _ ?_ (.tmp 22) (.tmp 27) 31 ?_ w.heap.size 27 i27 .nilIface 1 16 Try.underlying31 ei ez es eb rfl (by decide) (.slice (some ⟨g1, 0, none⟩) xl.length cap1) xl.length xl ?_ own12 ⟨g2, 0, none⟩ xr.length cap2 xr ?_ (by simp) (own2.cells rfl) c1 pr (by unfold maxLen; omega) (by omega) hsz w2.heap.size rfl ?_; rfl; rfl; rfl; rfl; intro g3 cap3 w3 own3 grow3 at3 lt3; have k5 := (grow3.cell_far ⟨b, o + 1, none⟩ hbz hne).trans k3; have k6 := (grow3.cell_far ⟨b, o + 2, none⟩ hbz hne).trans k4)
      | (go_at_call 16; have _t := tokL; clear tokL; refine (Hl.out _ ?_).mono ?_; exact (Below.refl _ _).drew; rintro e w1 ⟨g1, cap1, rfl, own1, hb1, lo1, hi1⟩; have lo1' : w.heap.size ≤ g1 := lo1; have hne : some b ≠ Value.ownBlock (.slice (some ⟨g1, 0, none⟩) xl.length cap1) := ne_own hb lo1; have k1 := (hb1.cell (p := ⟨b, o + 1, none⟩) hb).trans hl; have k2 := (hb1.cell (p := ⟨b, o + 2, none⟩) hb).trans hr)
      | (go_at_call 16; have _t := tokR; clear tokR; refine (Hr.out _ ?_).mono ?_; exact (Below.refl _ _).drew.trans hb1; rintro e w2 ⟨g2, cap2, rfl, own2, hb2, lo2, hi2⟩; have hbz1 : b < w1.heap.size := Nat.lt_of_lt_of_le hb hb1.size; have hbz : b < w2.heap.size := Nat.lt_of_lt_of_le hbz1 hb2.size; have k3 := (hb2.cell (p := ⟨b, o + 1, none⟩) hbz1).trans k1; have k4 := (hb2.cell (p := ⟨b, o + 2, none⟩) hbz1).trans k2; have own12 := ownsRow_below own1 hb2; have hsz : w.heap.size ≤ w2.heap.size := Nat.le_trans hb1.size hb2.size))
  go_wp2_with fail
  go_ret
  have b3 : Below w.heap.size w w2 := ((Below.refl w.heap.size w).drew.trans hb1).trans (hb2.mono hb1.size)
  refine ⟨g3, cap3, ?_, ?_, b3.grown grow3 hsz ?_, (own3.lt g3 rfl).1, lt3⟩
  · rw [List.length_append]; rfl
  · rw [List.length_append]; exact own3
  · intro k hk
    simp [Value.ownBlock] at hk
    omega

theorem gives_one (w : World) (v : Value) : Gives w [v] (.returned (.slice (some ⟨w.heap.size, 0, none⟩) 1 1)) (w.alloc (.cells #[v] 27)) :=
  ⟨w.heap.size, 1, rfl, ownsRow_one w v, (Below.refl _ _).alloc (Nat.le_refl _) _, Nat.le_refl _, by simp⟩

/-- THE CONTRACT OF 'conjuncts' -/
theorem conj_any : ∀ (T : BT ByteArray) (w : World), rep w T → (conj T).length ≤ 1048576 → Calls Try.prog 16 #[val T] w (Gives w (conj T))
  | .nil, w, _, _ => (conj_nil w).mono (by rintro e w' ⟨rfl, rfl⟩; exact gives_one w _)
  | .node b o op l r, w, ⟨h1, h2, h3, h4, h5, h6⟩, hlen => by
    by_cases hn : isAnd op = true
    · have e : conj (.node b o op l r) = conj l ++ conj r := by simp [conj, hn]
      rw [e] at hlen ⊢
      rw [List.length_append] at hlen
      exact conj_and b o op (val l) (val r) (conj l) (conj r) w h1 hn h2 h3 h4
        (fun w1 hb => conj_any l w1 (rep_below hb (Nat.le_refl _) l h5) (by omega)) (fun w1 hb => conj_any r w1 (rep_below hb (Nat.le_refl _) r h6) (by omega))
        (conj_pos r) hlen (conj_cell r)
    · have hn' : isAnd op = false := by simpa using hn
      have e : conj (.node b o op l r) = [.iface 25 (.pointer (some ⟨b, o, none⟩))] := by simp [conj, hn']
      rw [e]
      exact (conj_one b o op w h1 hn').mono (by rintro e w' ⟨rfl, rfl⟩; exact gives_one w _)

theorem zz_walk (v : Value) (xs : List Value) (w : World) (H : Hid (Calls Try.prog 16 #[v] w (Gives w xs))) : Calls Try.prog 7 #[v] w (Gives w xs) := by
  go_enter Try.func7, Try.ntmps7
  go_wp2_with (go_at_call 16; refine H.out.mono ?_; rintro e w1 ⟨g1, cap1, rfl, own1, hb1, lo1, hi1⟩)
  go_ret
  exact ⟨g1, cap1, rfl, own1, hb1, lo1, hi1⟩
/-- THE CONTRACT OF 'ZZconjuncts' -/
theorem zz_any (T : BT ByteArray) (w : World) (h : rep w T) (hl : (conj T).length ≤ 1048576) : Calls Try.prog 7 #[val T] w (Gives w (conj T)) :=
  zz_walk (val T) (conj T) w (conj_any T w h hl)
end Go.Proofs.Qxb6616491a
