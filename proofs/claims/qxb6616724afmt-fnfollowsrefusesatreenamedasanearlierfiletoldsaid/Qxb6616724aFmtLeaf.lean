import Derived.Test.Qxb6616724aFmtPlain
import Derived.WalkKit
import Derived.WalkSpells
import Derived.WalkLawsBesides
import Derived.Deep.QuietTactic
import Derived.BigQuiet
namespace Go.Proofs.Qxb6616724aFmt
open Go.RowKit

/-- a slice of bytes, at whatever address: what it holds -/
def BS (w : World) (a : Option Addr) (n c : Nat) (xs : List Int) : Prop :=
  xs.length = n ∧ n ≤ c ∧ c ≤ maxLen ∧ ∀ (i : Nat) (x : Int), xs[i]? = some x → (0 ≤ x ∧ x < 256) ∧ ∃ b off, a = some ⟨b, off, none⟩ ∧ b < w.heap.size ∧ w.cell? ⟨b, off + i, none⟩ = some (.int .u8 x)
theorem bs_below {w w' : World} {a : Option Addr} {n c : Nat} {xs : List Int} (hb : Below w.heap.size w w') (h : BS w a n c xs) : BS w' a n c xs := by
  refine ⟨h.1, h.2.1, h.2.2.1, fun i s hs => ?_⟩
  obtain ⟨h1, b, off, h2, h3, h4⟩ := h.2.2.2 i s hs
  exact ⟨h1, b, off, h2, Nat.lt_of_lt_of_le h3 hb.size, (hb.cell (p := ⟨b, off + i, none⟩) h3).trans h4⟩
theorem bs_at {w : World} {a : Option Addr} {n c : Nat} {xs : List Int} (h : BS w a n c xs) (k : Nat) (hk : k < n) : ∃ x b off, xs[k]? = some x ∧ (0 ≤ x ∧ x < 256) ∧ a = some ⟨b, off, none⟩ ∧ b < w.heap.size ∧ w.cell? ⟨b, off + k, none⟩ = some (.int .u8 x) := by
  have hl : k < xs.length := by have := h.1; omega
  obtain ⟨h1, b, off, h2, h3, h4⟩ := h.2.2.2 k xs[k] (by simp)
  exact ⟨xs[k], b, off, by simp, h1, h2, h3, h4⟩

/-- a name: its slice and its bytes -/
def NV : Type := Option Addr × Nat × Nat × List Int
def NV.a (v : NV) : Option Addr := v.1
def NV.n (v : NV) : Nat := v.2.1
def NV.c (v : NV) : Nat := v.2.2.1
def NV.xs (v : NV) : List Int := v.2.2.2
def NV.val (v : NV) : Value := .slice v.a v.n v.c
/-- a slice of names -/
def NS (w : World) (a : Option Addr) (n : Nat) (vs : List NV) : Prop :=
  vs.length = n ∧ n ≤ maxLen ∧ ∀ (i : Nat) (v : NV), vs[i]? = some v → BS w v.a v.n v.c v.xs ∧ ∃ b off, a = some ⟨b, off, none⟩ ∧ b < w.heap.size ∧ w.cell? ⟨b, off + i, none⟩ = some v.val
theorem ns_below {w w' : World} {a : Option Addr} {n : Nat} {vs : List NV} (hb : Below w.heap.size w w') (h : NS w a n vs) : NS w' a n vs := by
  refine ⟨h.1, h.2.1, fun i s hs => ?_⟩
  obtain ⟨h1, b, off, h2, h3, h4⟩ := h.2.2 i s hs
  exact ⟨bs_below hb h1, b, off, h2, Nat.lt_of_lt_of_le h3 hb.size, (hb.cell (p := ⟨b, off + i, none⟩) h3).trans h4⟩
theorem ns_at {w : World} {a : Option Addr} {n : Nat} {vs : List NV} (h : NS w a n vs) (k : Nat) (hk : k < n) : ∃ (d : Option Addr) (m c : Nat) (xs : List Int) (b off : Nat), vs[k]? = some (d, m, c, xs) ∧ BS w d m c xs ∧ a = some ⟨b, off, none⟩ ∧ b < w.heap.size ∧ w.cell? ⟨b, off + k, none⟩ = some (.slice d m c) := by
  have hl : k < vs.length := by have := h.1; omega
  obtain ⟨h1, b, off, h2, h3, h4⟩ := h.2.2 k vs[k] (by simp)
  exact ⟨vs[k].a, vs[k].n, vs[k].c, vs[k].xs, b, off, List.getElem?_eq_getElem hl, h1, h2, h3, h4⟩
/-- a slice of modes -/
def MS (w : World) (a : Option Addr) (n : Nat) (ms : List Int) : Prop :=
  ms.length = n ∧ n ≤ maxLen ∧ ∀ (i : Nat) (m : Int), ms[i]? = some m → ∃ b off, a = some ⟨b, off, none⟩ ∧ b < w.heap.size ∧ w.cell? ⟨b, off + i, none⟩ = some (.int .u32 m)
theorem ms_below {w w' : World} {a : Option Addr} {n : Nat} {ms : List Int} (hb : Below w.heap.size w w') (h : MS w a n ms) : MS w' a n ms := by
  refine ⟨h.1, h.2.1, fun i s hs => ?_⟩
  obtain ⟨b, off, h2, h3, h4⟩ := h.2.2 i s hs
  exact ⟨b, off, h2, Nat.lt_of_lt_of_le h3 hb.size, (hb.cell (p := ⟨b, off + i, none⟩) h3).trans h4⟩
theorem ms_at {w : World} {a : Option Addr} {n : Nat} {ms : List Int} (h : MS w a n ms) (k : Nat) (hk : k < n) : ∃ m b off, ms[k]? = some m ∧ a = some ⟨b, off, none⟩ ∧ b < w.heap.size ∧ w.cell? ⟨b, off + k, none⟩ = some (.int .u32 m) := by
  have hl : k < ms.length := by have := h.1; omega
  obtain ⟨b, off, h2, h3, h4⟩ := h.2.2 k ms[k] (by simp)
  exact ⟨ms[k], b, off, by simp, h2, h3, h4⟩

/-- it returns an int from -1 to the budget -/
def IsI (e : Ending) : Prop := ∃ r : Int, e = .returned (.int .i64 r) ∧ -1 ≤ r ∧ r ≤ 1048576

set_option maxHeartbeats 1000000 in
theorem spend_any (a : Option Addr) (n c : Nat) (vs : List NV) (w : World) (hS : NS w a n vs) :
    Calls Tryf.prog 10 #[.int .i64 1048576, .slice a n c] w fun e w' => IsI e ∧ w' = w := by
  have hm : n ≤ maxLen := hS.2.1
  unfold maxLen at hm
  have HS : Hid (NS w a n vs) := hS
  clear hS
  go_enter Tryf.func10, Tryf.ntmps10
  go_wp2
  go_loop [0, 5] (fun l i => ∃ (k : Nat) (y : Int), k ≤ n ∧ i = .int .i64 k ∧ l = .int .i64 y ∧ 0 ≤ y ∧ y ≤ 1048576) (fun _ i => n - (intOf i).toNat)
  case atStart => exact ⟨0, 1048576, Nat.zero_le _, rfl, rfl, by omega, by omega⟩
  case round =>
    obtain ⟨k, y, hk, rfl, rfl, y0, y1⟩ := hrel
    by_cases hlt : k < n
    · obtain ⟨d, m, cc, xs, b, off, hs, hB, rfl, hb, hc⟩ := ns_at HS.out k hlt
      have hml : m ≤ maxLen := Nat.le_trans hB.2.1 hB.2.2.1
      unfold maxLen at hml
      clear hs hB
      by_cases h16 : y < 24
      · go_wp2
        go_ret
        exact ⟨⟨-1, rfl, by omega, by omega⟩, rfl⟩
      · by_cases hle : y - 24 < (m : Int)
        · go_wp2
          go_ret
          exact ⟨⟨-1, rfl, by omega, by omega⟩, rfl⟩
        · go_wp2
          go_round
          case rel => exact ⟨k + 1, y - 24 - m, by omega, by go_num, rfl, by omega, by omega⟩
          case measure => simp [intOf]; omega
    · go_wp2
      go_ret
      exact ⟨⟨y, rfl, by omega, by omega⟩, rfl⟩

/-- it returns a bool; true only if every name is short -/
def IsY (vs : List NV) (e : Ending) : Prop := ∃ t, e = .returned (.bool t) ∧ (t = true → ∀ (i : Nat) (v : NV), vs[i]? = some v → v.n ≤ 1048576)

set_option maxHeartbeats 1000000 in
theorem bytes_any (a a' : Option Addr) (n c n' c' : Nat) (j : Int) (vs : List NV) (w : World) (hS : NS w a n vs) (hm' : n' ≤ maxLen) :
    Calls Tryf.prog 4 #[.slice a n c, .slice a' n' c', .int .i64 j] w fun e w' => IsY vs e ∧ w' = w := by
  have hm : n ≤ maxLen := hS.2.1
  unfold maxLen at hm hm'
  have HS : Hid (NS w a n vs) := hS
  clear hS
  by_cases h1 : (1048576 : Int) < n
  · go_enter Tryf.func4, Tryf.ntmps4
    go_wp2
    go_ret
    exact ⟨⟨false, rfl, fun h => by cases h⟩, rfl⟩
  · go_enter Tryf.func4, Tryf.ntmps4
    go_wp2
    go_loop [7, 8] (fun l i => ∃ (k : Nat) (y : Int), k ≤ n ∧ i = .int .i64 k ∧ l = .int .i64 y ∧ 0 ≤ y ∧ y ≤ 1048576 ∧ ∀ (t : Nat) (v : NV), t < k → vs[t]? = some v → v.n ≤ 1048576) (fun _ i => n - (intOf i).toNat)
    case atStart => exact ⟨0, n, Nat.zero_le _, rfl, by go_num, by omega, by omega, fun t v h => by omega⟩
    case round =>
      obtain ⟨k, y, hk, rfl, rfl, y0, y1, hI⟩ := hrel
      have HI : Hid (∀ (t : Nat) (v : NV), t < k → vs[t]? = some v → v.n ≤ 1048576) := hI
      clear hI
      by_cases hlt : k < n
      · obtain ⟨d, m, cc, xs, b, off, hs, hB, rfl, hb, hc⟩ := ns_at HS.out k hlt
        have hml : m ≤ maxLen := Nat.le_trans hB.2.1 hB.2.2.1
        unfold maxLen at hml
        have Hs : Hid (vs[k]? = some (d, m, cc, xs)) := hs
        clear hs hB
        by_cases h16 : (1048576 : Int) < m
        · go_wp2
          go_ret
          exact ⟨⟨false, rfl, fun h => by cases h⟩, rfl⟩
        · by_cases hle : (1048576 : Int) < y + m
          · go_wp2
            go_ret
            exact ⟨⟨false, rfl, fun h => by cases h⟩, rfl⟩
          · go_wp2
            go_round
            case rel =>
              refine ⟨k + 1, y + m, by omega, by go_num, by go_num, by omega, by omega, ?_⟩
              intro t v ht hv
              rcases Nat.lt_or_ge t k with h | h
              · exact HI.out t v h hv
              · obtain rfl : t = k := by omega
                rw [Hs.out] at hv
                cases hv
                show m ≤ 1048576
                omega
            case measure => simp [intOf]; omega
      · have HF : Hid (∀ (i : Nat) (v : NV), vs[i]? = some v → v.n ≤ 1048576) := by
          intro i v hv
          refine HI.out i v ?_ hv
          have := (List.getElem?_eq_some_iff.1 hv).1
          have := HS.out.1
          omega
        clear HI
        by_cases h3 : (1048576 : Int) < n'
        · go_wp2
          go_ret
          exact ⟨⟨false, rfl, fun h => by cases h⟩, rfl⟩
        · by_cases h4 : (1048576 : Int) < y + n'
          · go_wp2
            go_ret
            exact ⟨⟨false, rfl, fun h => by cases h⟩, rfl⟩
          · go_wp2
            go_ret
            exact ⟨⟨true, rfl, fun _ => HF.out⟩, rfl⟩

/-- it returns a bool; true only if the name is one -/
def IsN (xs : List Int) (e : Ending) : Prop := ∃ t, e = .returned (.bool t) ∧ (t = true → Pl.okName xs)

set_option maxHeartbeats 1000000 in
theorem nameFits_any (a : Option Addr) (n c : Nat) (xs : List Int) (w : World) (hS : BS w a n c xs) :
    Calls Tryf.prog 11 #[.slice a n c] w fun e w' => IsN xs e ∧ w' = w := by
  have hm : n ≤ maxLen := Nat.le_trans hS.2.1 hS.2.2.1
  unfold maxLen at hm
  have HS : Hid (BS w a n c xs) := hS
  clear hS
  by_cases h0 : n = 0
  · subst h0
    go_enter Tryf.func11, Tryf.ntmps11
    go_wp2
    go_ret
    exact ⟨⟨false, rfl, fun h => by cases h⟩, rfl⟩
  · have h0' : ¬ (n : Int) = 0 := by omega
    go_enter Tryf.func11, Tryf.ntmps11
    go_wp2
    go_loop [3] (fun i => ∃ (k : Nat), k ≤ n ∧ i = .int .i64 k ∧ ∀ (t : Nat) (x : Int), t < k → xs[t]? = some x → 0 < x ∧ x ≠ 47) (fun i => n - (intOf i).toNat)
    case atStart => exact ⟨0, Nat.zero_le _, rfl, fun t v h => by omega⟩
    case round =>
      obtain ⟨k, hk, rfl, hI⟩ := hrel
      have HI : Hid (∀ (t : Nat) (x : Int), t < k → xs[t]? = some x → 0 < x ∧ x ≠ 47) := hI
      clear hI
      by_cases hlt : k < n
      · obtain ⟨x, b, off, hs, hx, rfl, hb, hc⟩ := bs_at HS.out k hlt
        have Hs : Hid (xs[k]? = some x) := hs
        clear hs
        obtain ⟨hx0, hx1⟩ := hx
        by_cases hz : x = 0
        · subst hz
          go_wp2
          go_ret
          exact ⟨⟨false, rfl, fun h => by cases h⟩, rfl⟩
        · by_cases hz2 : x = 47
          · subst hz2
            go_wp2
            go_ret
            exact ⟨⟨false, rfl, fun h => by cases h⟩, rfl⟩
          · have d0 : (x == 0) = false := by simpa using hz
            have d1 : (x == 47) = false := by simpa using hz2
            have HX : Hid (0 < x ∧ x ≠ 47) := ⟨by omega, hz2⟩
            clear hz hz2
            go_wp2
            go_round
            case rel =>
              refine ⟨k + 1, by omega, by go_num, ?_⟩
              intro t v ht hv
              rcases Nat.lt_or_ge t k with h | h
              · exact HI.out t v h hv
              · obtain rfl : t = k := by omega
                rw [Hs.out] at hv
                cases hv
                exact HX.out
            case measure => simp [intOf]; omega
      · have HF : Hid (Pl.okName xs) := by
          refine ⟨?_, ?_⟩
          · rintro rfl
            exact h0 HS.out.1.symm
          · intro x hx
            obtain ⟨i, hi⟩ := List.getElem?_of_mem hx
            refine HI.out i x ?_ hi
            have := (List.getElem?_eq_some_iff.1 hi).1
            have := HS.out.1
            omega
        clear HI
        go_wp2
        go_ret
        exact ⟨⟨true, rfl, fun _ => HF.out⟩, rfl⟩
end Go.Proofs.Qxb6616724aFmt
