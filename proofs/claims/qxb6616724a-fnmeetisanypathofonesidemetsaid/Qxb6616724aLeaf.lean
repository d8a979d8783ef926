import Derived.Test.Qxb6616724aRows
import Derived.WalkKit
import Derived.WalkSpells
import Derived.WalkLawsBesides
import Derived.Deep.QuietTactic
import Derived.BigQuiet
namespace Go.Proofs.Qxb6616724a
open Go.RowKit

/-- a slice of strings, at whatever address: what it holds -/
def SS (w : World) (a : Option Addr) (n : Nat) (ss : List ByteArray) : Prop :=
  ss.length = n ∧ n ≤ maxLen ∧ ∀ (i : Nat) (s : ByteArray), ss[i]? = some s → s.size ≤ maxLen ∧ ∃ b off, a = some ⟨b, off, none⟩ ∧ b < w.heap.size ∧ w.cell? ⟨b, off + i, none⟩ = some (.string s)
theorem ss_below {w w' : World} {a : Option Addr} {n : Nat} {ss : List ByteArray} (hb : Below w.heap.size w w') (h : SS w a n ss) : SS w' a n ss := by
  refine ⟨h.1, h.2.1, fun i s hs => ?_⟩
  obtain ⟨h1, b, off, h2, h3, h4⟩ := h.2.2 i s hs
  exact ⟨h1, b, off, h2, Nat.lt_of_lt_of_le h3 hb.size, (hb.cell (p := ⟨b, off + i, none⟩) h3).trans h4⟩
theorem ss_at {w : World} {a : Option Addr} {n : Nat} {ss : List ByteArray} (h : SS w a n ss) (k : Nat) (hk : k < n) : ∃ s b off, ss[k]? = some s ∧ s.size ≤ maxLen ∧ a = some ⟨b, off, none⟩ ∧ b < w.heap.size ∧ w.cell? ⟨b, off + k, none⟩ = some (.string s) := by
  have hl : k < ss.length := by have := h.1; omega
  obtain ⟨h1, b, off, h2, h3, h4⟩ := h.2.2 k ss[k] (by simp)
  exact ⟨ss[k], b, off, by simp, h1, h2, h3, h4⟩

/-- it returns an int from -1 to the budget -/
def IsI (e : Ending) : Prop := ∃ r : Int, e = .returned (.int .i64 r) ∧ -1 ≤ r ∧ r ≤ 1048576

set_option maxHeartbeats 1000000 in
theorem spend_any (left : Int) (a : Option Addr) (n c : Nat) (ss : List ByteArray) (w : World) (_h1 : -1 ≤ left) (h2 : left ≤ 1048576) (hS : SS w a n ss) :
    Calls Try.prog 12 #[.int .i64 left, .slice a n c] w fun e w' => IsI e ∧ w' = w := by
  have hm : n ≤ maxLen := hS.2.1
  unfold maxLen at hm
  have HS : Hid (SS w a n ss) := hS
  clear hS
  by_cases h0 : left < 0
  · go_enter Try.func12, Try.ntmps12
    go_wp2
    go_ret
    exact ⟨⟨-1, rfl, by omega, by omega⟩, rfl⟩
  · go_enter Try.func12, Try.ntmps12
    go_wp2
    go_loop [0, 5] (fun l i => ∃ (k : Nat) (y : Int), k ≤ n ∧ i = .int .i64 k ∧ l = .int .i64 y ∧ 0 ≤ y ∧ y ≤ 1048576) (fun _ i => n - (intOf i).toNat)
    case atStart => exact ⟨0, left, Nat.zero_le _, rfl, rfl, by omega, by omega⟩
    case round =>
      obtain ⟨k, y, hk, rfl, rfl, y0, y1⟩ := hrel
      by_cases hlt : k < n
      · obtain ⟨s, b, off, hs, ms, rfl, hb, hc⟩ := ss_at HS.out k hlt
        unfold maxLen at ms
        clear hs
        by_cases h16 : y < 16
        · go_wp2
          go_ret
          exact ⟨⟨-1, rfl, by omega, by omega⟩, rfl⟩
        · by_cases hle : y - 16 < (s.size : Int)
          · go_wp2
            go_ret
            exact ⟨⟨-1, rfl, by omega, by omega⟩, rfl⟩
          · go_wp2
            go_round
            case rel => exact ⟨k + 1, y - 16 - s.size, by omega, by go_num, rfl, by omega, by omega⟩
            case measure => simp [intOf]; omega
      · go_wp2
        go_ret
        exact ⟨⟨y, rfl, by omega, by omega⟩, rfl⟩

theorem sizeOK_any (a0 a1 a2 a3 a4 a5 : Option Addr) (n0 n1 n2 n3 n4 n5 c0 c1 c2 c3 c4 c5 : Nat) (s0 s1 s2 s3 s4 s5 : List ByteArray) (w : World) (h0 : SS w a0 n0 s0) (h1 : SS w a1 n1 s1) (h2 : SS w a2 n2 s2) (h3 : SS w a3 n3 s3) (h4 : SS w a4 n4 s4) (h5 : SS w a5 n5 s5) :
    Calls Try.prog 6 #[.slice a0 n0 c0, .slice a1 n1 c1, .slice a2 n2 c2, .slice a3 n3 c3, .slice a4 n4 c4, .slice a5 n5 c5] w fun e w' => (∃ t : Int, e = .returned (.bool (decide (0 ≤ t)))) ∧ w' = w := by
  have H : Hid (SS w a0 n0 s0 ∧ SS w a1 n1 s1 ∧ SS w a2 n2 s2 ∧ SS w a3 n3 s3 ∧ SS w a4 n4 s4 ∧ SS w a5 n5 s5) := ⟨h0, h1, h2, h3, h4, h5⟩
  clear h0 h1 h2 h3 h4 h5
  go_enter Try.func6, Try.ntmps6
  go_wp2_with fail
  refine (spend_any _ a0 n0 c0 s0 _ (by omega) (by omega) H.out.1).mono ?_
  rintro e w1 ⟨⟨r1, rfl, l1, u1⟩, rfl⟩
  go_wp2_with fail
  refine (spend_any _ a1 n1 c1 s1 _ l1 u1 H.out.2.1).mono ?_
  rintro e w1 ⟨⟨r2, rfl, l2, u2⟩, rfl⟩
  go_wp2_with fail
  refine (spend_any _ a2 n2 c2 s2 _ l2 u2 H.out.2.2.1).mono ?_
  rintro e w1 ⟨⟨r3, rfl, l3, u3⟩, rfl⟩
  go_wp2_with fail
  refine (spend_any _ a3 n3 c3 s3 _ l3 u3 H.out.2.2.2.1).mono ?_
  rintro e w1 ⟨⟨r4, rfl, l4, u4⟩, rfl⟩
  go_wp2_with fail
  refine (spend_any _ a4 n4 c4 s4 _ l4 u4 H.out.2.2.2.2.1).mono ?_
  rintro e w1 ⟨⟨r5, rfl, l5, u5⟩, rfl⟩
  go_wp2_with fail
  refine (spend_any _ a5 n5 c5 s5 _ l5 u5 H.out.2.2.2.2.2).mono ?_
  rintro e w1 ⟨⟨r6, rfl, l6, u6⟩, rfl⟩
  go_wp2_with fail
  go_ret
  exact ⟨⟨r6, rfl⟩, rfl⟩
end Go.Proofs.Qxb6616724a
