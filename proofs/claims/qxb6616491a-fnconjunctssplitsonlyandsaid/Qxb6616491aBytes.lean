import Derived.Test.Qxb6616491aTerms
namespace Go.Proofs.Qxb6616491a
open Go.RowKit Go.Deep

/-- a slice of strings lies in memory -/
def Strs (w : World) (b off : Nat) (ss : List ByteArray) : Prop :=
  b < w.heap.size ∧ ∀ i s, ss[i]? = some s → w.cell? ⟨b, off + i, none⟩ = some (.string s) ∧ s.size ≤ maxLen
theorem strs_below {w w' : World} {b off : Nat} {ss : List ByteArray} (hb : Below w.heap.size w w') (h : Strs w b off ss) : Strs w' b off ss :=
  ⟨Nat.lt_of_lt_of_le h.1 hb.size, fun i s hi => ⟨(hb.cell (p := ⟨b, off + i, none⟩) h.1).trans (h.2 i s hi).1, (h.2 i s hi).2⟩⟩

/-- it returns a bool; true only if every string is short -/
def IsB (ss : List ByteArray) (e : Ending) : Prop := ∃ t, e = .returned (.bool t) ∧ (t = true → ∀ (i : Nat) (s : ByteArray), ss[i]? = some s → s.size ≤ 1048576)
theorem bytes_nil (a : Option Addr) (c : Nat) (k : Int) (w : World) : Calls Try.prog 5 #[.slice a 0 c, .int .i64 k] w fun e w' => e = .returned (.bool true) ∧ w' = w := by
  go_enter Try.func5, Try.ntmps5
  go_wp2
  go_loop [5, 6] (fun z i => z = .int .i64 0 ∧ i = .int .i64 0) (fun _ _ => 0)
  case atStart => exact ⟨rfl, rfl⟩
  case round =>
    obtain ⟨rfl, rfl⟩ := hrel
    go_wp2
    go_ret
    exact ⟨rfl, rfl⟩

theorem lt_of_some {α : Type} {l : List α} {i n : Nat} {a : α} (h : l[i]? = some a) (hn : l.length ≤ n) : i < n := by
  rcases Nat.lt_or_ge i l.length with h' | h'
  · omega
  · rw [List.getElem?_eq_none h'] at h; cases h
theorem short_step {ss : List ByteArray} {j : Nat} {s : ByteArray} (h : ∀ (i : Nat) (s : ByteArray), i < j → ss[i]? = some s → s.size ≤ 1048576) (hs : ss[j]? = some s) (hle : s.size ≤ 1048576) : ∀ (i : Nat) (s : ByteArray), i < j + 1 → ss[i]? = some s → s.size ≤ 1048576 := by
  intro i s' hi hs'
  rcases Nat.lt_or_ge i j with h1 | h1
  · exact h i s' h1 hs'
  · obtain rfl : i = j := by omega
    rw [hs] at hs'
    cases hs'
    exact hle
set_option maxHeartbeats 1000000 in
theorem bytes_any (b off n c : Nat) (k : Int) (ss : List ByteArray) (w : World) (hn : ss.length = n) (hm : n ≤ maxLen) (hS : Strs w b off ss) :
    Calls Try.prog 5 #[.slice (some ⟨b, off, none⟩) n c, .int .i64 k] w fun e w' => IsB ss e ∧ w' = w := by
  unfold maxLen at hm
  have HN : Hid (ss.length = n) := hn
  clear hn
  have HS : Hid (Strs w b off ss) := hS
  clear hS
  by_cases h1 : (1048576 : Int) < (n : Int)
  · go_enter Try.func5, Try.ntmps5
    go_wp2
    go_ret
    exact ⟨⟨false, rfl, fun h => by cases h⟩, rfl⟩
  · go_enter Try.func5, Try.ntmps5
    go_wp2
    go_loop [5, 6] (fun z i => ∃ (j : Nat) (y : Int), j ≤ n ∧ i = .int .i64 j ∧ z = .int .i64 y ∧ 0 ≤ y ∧ y ≤ 1048576 ∧ ∀ (i : Nat) (s : ByteArray), i < j → ss[i]? = some s → s.size ≤ 1048576) (fun _ i => n - (intOf i).toNat)
    case atStart => exact ⟨0, n, Nat.zero_le _, rfl, rfl, by omega, by omega, fun i s hi => by omega⟩
    case round =>
      obtain ⟨j, y, hj, rfl, rfl, y0, y1, hall⟩ := hrel
      have HA : Hid (∀ (i : Nat) (s : ByteArray), i < j → ss[i]? = some s → s.size ≤ 1048576) := hall
      clear hall
      by_cases hlt : j < n
      · obtain ⟨s, hs⟩ : ∃ s, ss[j]? = some s := ⟨ss[j]'(by have := HN.out; omega), by simp⟩
        obtain ⟨cs, ms⟩ := HS.out.2 j s hs
        unfold maxLen at ms
        have Hs : Hid (ss[j]? = some s) := hs
        clear hs
        go_wp2
        · go_ret
          exact ⟨⟨false, rfl, fun h => by cases h⟩, rfl⟩
        · go_ret
          exact ⟨⟨false, rfl, fun h => by cases h⟩, rfl⟩
        · go_round
          case rel => exact ⟨j + 1, y + s.size, by omega, by go_num, rfl, by omega, by omega, short_step HA.out Hs.out (by omega)⟩
          case measure => simp [intOf]; omega
      · go_wp2
        go_ret
        exact ⟨⟨true, rfl, fun _ i s hs => HA.out i s (lt_of_some hs (by have := HN.out; omega)) hs⟩, rfl⟩
end Go.Proofs.Qxb6616491a
