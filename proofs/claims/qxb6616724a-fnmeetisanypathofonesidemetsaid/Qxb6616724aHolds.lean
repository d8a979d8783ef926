import Derived.Test.Qxb6616724aLeaf
import Derived.Test.Qxb6616724aOrder
namespace Go.Proofs.Qxb6616724a
open Go.RowKit

set_option maxHeartbeats 1000000 in
theorem holds_any (a : Option Addr) (n c : Nat) (x : ByteArray) (ss : List ByteArray) (w : World) (hS : SS w a n ss) :
    Calls Try.prog 10 #[.slice a n c, .string x] w fun e w' => e = .returned (.bool (mem x ss)) ∧ w' = w := by
  have hm : n ≤ maxLen := hS.2.1
  unfold maxLen at hm
  have HS : Hid (SS w a n ss) := hS
  clear hS
  go_enter Try.func10, Try.ntmps10
  go_wp2
  go_loop [5] (fun i => ∃ (k : Nat), k ≤ n ∧ i = .int .i64 k ∧ mem x (ss.take k) = false) (fun i => n - (intOf i).toNat)
  case atStart => exact ⟨0, Nat.zero_le _, rfl, by simp [mem]⟩
  case round =>
    obtain ⟨k, hk, rfl, hno⟩ := hrel
    have HNO : Hid (mem x (ss.take k) = false) := hno
    clear hno
    by_cases hlt : k < n
    · obtain ⟨s, b, off, hs, ms, rfl, hb, hc⟩ := ss_at HS.out k hlt
      have Hs : Hid (ss[k]? = some s) := hs
      clear hs
      by_cases he : (s.toList == x.toList) = true
      · have hfin : Hid (mem x ss = true) := by
          show _ = _
          simp only [mem, List.any_eq_true]
          exact ⟨s, List.mem_of_getElem? Hs.out, he⟩
        go_wp2
        go_ret
        exact ⟨by rw [hfin.out]; rfl, rfl⟩
      · have he' : (s.toList == x.toList) = false := by simpa using he
        clear he
        go_wp2
        go_round
        case rel =>
          refine ⟨k + 1, by omega, by go_num, ?_⟩
          have e : ss.take (k + 1) = ss.take k ++ [s] := by rw [List.take_add_one, Hs.out]; rfl
          rw [e]
          have := HNO.out
          simp only [mem, List.any_append, List.any_cons, List.any_nil, he', Bool.or_false] at *
          exact this
        case measure => simp [intOf]; omega
    · go_wp2
      go_ret
      refine ⟨?_, rfl⟩
      have := HNO.out
      rw [List.take_of_length_le (by have := HS.out.1; omega)] at this
      rw [this]; rfl
end Go.Proofs.Qxb6616724a
