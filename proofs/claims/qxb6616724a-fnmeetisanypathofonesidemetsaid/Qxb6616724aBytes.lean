import Derived.Test.Qxb6616724aLeaf
namespace Go.Proofs.Qxb6616724a
open Go.RowKit

/-- it returns a bool -/
def IsB (e : Ending) : Prop := ∃ t, e = .returned (.bool t)

set_option maxRecDepth 100000 in
set_option maxHeartbeats 8000000 in
theorem bytes_any (a0 a1 a2 a3 a4 a5 : Option Addr) (n0 n1 n2 n3 n4 n5 c0 c1 c2 c3 c4 c5 : Nat) (s0 s1 s2 s3 s4 s5 : List ByteArray) (w : World) (h0 : SS w a0 n0 s0) (h1 : SS w a1 n1 s1) (h2 : SS w a2 n2 s2) (h3 : SS w a3 n3 s3) (h4 : SS w a4 n4 s4) (h5 : SS w a5 n5 s5) :
    Calls Try.prog 5 #[.slice a0 n0 c0, .slice a1 n1 c1, .slice a2 n2 c2, .slice a3 n3 c3, .slice a4 n4 c4, .slice a5 n5 c5] w fun e w' => IsB e ∧ w' = w := by
  have m0 : n0 ≤ maxLen := h0.2.1
  have m1 : n1 ≤ maxLen := h1.2.1
  have m2 : n2 ≤ maxLen := h2.2.1
  have m3 : n3 ≤ maxLen := h3.2.1
  have m4 : n4 ≤ maxLen := h4.2.1
  have m5 : n5 ≤ maxLen := h5.2.1
  unfold maxLen at m0 m1 m2 m3 m4 m5
  have H0 : Hid (SS w a0 n0 s0) := h0
  have H1 : Hid (SS w a1 n1 s1) := h1
  have H2 : Hid (SS w a2 n2 s2) := h2
  have H3 : Hid (SS w a3 n3 s3) := h3
  have H4 : Hid (SS w a4 n4 s4) := h4
  have H5 : Hid (SS w a5 n5 s5) := h5
  clear h0 h1 h2 h3 h4 h5
  go_enter Try.func5, Try.ntmps5
  by_cases t0 : (1048576 : Int) < (n0 : Int)
  · go_wp2
    go_ret
    exact ⟨⟨_, rfl⟩, rfl⟩
  go_wp2
  go_loop [13, 14] (fun z i => ∃ (j : Nat) (y : Int), j ≤ n0 ∧ i = .int .i64 j ∧ z = .int .i64 y ∧ 0 ≤ y ∧ y ≤ 1048576) (fun _ i => n0 - (intOf i).toNat)
  case atStart => exact ⟨0, n0, Nat.zero_le _, rfl, rfl, by omega, by omega⟩
  case round =>
    obtain ⟨j0, y0, hj0, rfl, rfl, l0, r0⟩ := hrel
    by_cases hlt0 : j0 < n0
    · obtain ⟨s, b, off, hs, ms, rfl, hb, hc⟩ := ss_at H0.out j0 hlt0
      unfold maxLen at ms
      clear hs
      by_cases q1 : (1048576 : Int) < (s.size : Int)
      · go_wp2
        go_ret
        exact ⟨⟨_, rfl⟩, rfl⟩
      by_cases q2 : (1048576 : Int) < y0 + (s.size : Int)
      · go_wp2
        go_ret
        exact ⟨⟨_, rfl⟩, rfl⟩
      go_wp2
      go_round
      case rel => exact ⟨j0 + 1, y0 + s.size, by omega, by go_num, rfl, by omega, by omega⟩
      case measure => simp [intOf]; omega
    · clear hj0 t0
      by_cases t1 : (1048576 : Int) < (n1 : Int)
      · go_wp2
        go_ret
        exact ⟨⟨_, rfl⟩, rfl⟩
      by_cases u1 : (1048576 : Int) < y0 + (n1 : Int)
      · go_wp2
        go_ret
        exact ⟨⟨_, rfl⟩, rfl⟩
      go_wp2
      go_loop [13, 15] (fun z i => ∃ (j : Nat) (y : Int), j ≤ n1 ∧ i = .int .i64 j ∧ z = .int .i64 y ∧ 0 ≤ y ∧ y ≤ 1048576) (fun _ i => n1 - (intOf i).toNat)
      case atStart => exact ⟨0, y0 + n1, Nat.zero_le _, rfl, rfl, by omega, by omega⟩
      case round =>
        obtain ⟨j1, y1, hj1, rfl, rfl, l1, r1⟩ := hrel
        by_cases hlt1 : j1 < n1
        · obtain ⟨s, b, off, hs, ms, rfl, hb, hc⟩ := ss_at H1.out j1 hlt1
          unfold maxLen at ms
          clear hs
          by_cases q1 : (1048576 : Int) < (s.size : Int)
          · go_wp2
            go_ret
            exact ⟨⟨_, rfl⟩, rfl⟩
          by_cases q2 : (1048576 : Int) < y1 + (s.size : Int)
          · go_wp2
            go_ret
            exact ⟨⟨_, rfl⟩, rfl⟩
          go_wp2
          go_round
          case rel => exact ⟨j1 + 1, y1 + s.size, by omega, by go_num, rfl, by omega, by omega⟩
          case measure => simp [intOf]; omega
        · clear hj1 t1 u1
          by_cases t2 : (1048576 : Int) < (n2 : Int)
          · go_wp2
            go_ret
            exact ⟨⟨_, rfl⟩, rfl⟩
          by_cases u2 : (1048576 : Int) < y1 + (n2 : Int)
          · go_wp2
            go_ret
            exact ⟨⟨_, rfl⟩, rfl⟩
          go_wp2
          go_loop [13, 16] (fun z i => ∃ (j : Nat) (y : Int), j ≤ n2 ∧ i = .int .i64 j ∧ z = .int .i64 y ∧ 0 ≤ y ∧ y ≤ 1048576) (fun _ i => n2 - (intOf i).toNat)
          case atStart => exact ⟨0, y1 + n2, Nat.zero_le _, rfl, rfl, by omega, by omega⟩
          case round =>
            obtain ⟨j2, y2, hj2, rfl, rfl, l2, r2⟩ := hrel
            by_cases hlt2 : j2 < n2
            · obtain ⟨s, b, off, hs, ms, rfl, hb, hc⟩ := ss_at H2.out j2 hlt2
              unfold maxLen at ms
              clear hs
              by_cases q1 : (1048576 : Int) < (s.size : Int)
              · go_wp2
                go_ret
                exact ⟨⟨_, rfl⟩, rfl⟩
              by_cases q2 : (1048576 : Int) < y2 + (s.size : Int)
              · go_wp2
                go_ret
                exact ⟨⟨_, rfl⟩, rfl⟩
              go_wp2
              go_round
              case rel => exact ⟨j2 + 1, y2 + s.size, by omega, by go_num, rfl, by omega, by omega⟩
              case measure => simp [intOf]; omega
            · clear hj2 t2 u2
              by_cases t3 : (1048576 : Int) < (n3 : Int)
              · go_wp2
                go_ret
                exact ⟨⟨_, rfl⟩, rfl⟩
              by_cases u3 : (1048576 : Int) < y2 + (n3 : Int)
              · go_wp2
                go_ret
                exact ⟨⟨_, rfl⟩, rfl⟩
              go_wp2
              go_loop [13, 17] (fun z i => ∃ (j : Nat) (y : Int), j ≤ n3 ∧ i = .int .i64 j ∧ z = .int .i64 y ∧ 0 ≤ y ∧ y ≤ 1048576) (fun _ i => n3 - (intOf i).toNat)
              case atStart => exact ⟨0, y2 + n3, Nat.zero_le _, rfl, rfl, by omega, by omega⟩
              case round =>
                obtain ⟨j3, y3, hj3, rfl, rfl, l3, r3⟩ := hrel
                by_cases hlt3 : j3 < n3
                · obtain ⟨s, b, off, hs, ms, rfl, hb, hc⟩ := ss_at H3.out j3 hlt3
                  unfold maxLen at ms
                  clear hs
                  by_cases q1 : (1048576 : Int) < (s.size : Int)
                  · go_wp2
                    go_ret
                    exact ⟨⟨_, rfl⟩, rfl⟩
                  by_cases q2 : (1048576 : Int) < y3 + (s.size : Int)
                  · go_wp2
                    go_ret
                    exact ⟨⟨_, rfl⟩, rfl⟩
                  go_wp2
                  go_round
                  case rel => exact ⟨j3 + 1, y3 + s.size, by omega, by go_num, rfl, by omega, by omega⟩
                  case measure => simp [intOf]; omega
                · clear hj3 t3 u3
                  by_cases t4 : (1048576 : Int) < (n4 : Int)
                  · go_wp2
                    go_ret
                    exact ⟨⟨_, rfl⟩, rfl⟩
                  by_cases u4 : (1048576 : Int) < y3 + (n4 : Int)
                  · go_wp2
                    go_ret
                    exact ⟨⟨_, rfl⟩, rfl⟩
                  go_wp2
                  go_loop [13, 18] (fun z i => ∃ (j : Nat) (y : Int), j ≤ n4 ∧ i = .int .i64 j ∧ z = .int .i64 y ∧ 0 ≤ y ∧ y ≤ 1048576) (fun _ i => n4 - (intOf i).toNat)
                  case atStart => exact ⟨0, y3 + n4, Nat.zero_le _, rfl, rfl, by omega, by omega⟩
                  case round =>
                    obtain ⟨j4, y4, hj4, rfl, rfl, l4, r4⟩ := hrel
                    by_cases hlt4 : j4 < n4
                    · obtain ⟨s, b, off, hs, ms, rfl, hb, hc⟩ := ss_at H4.out j4 hlt4
                      unfold maxLen at ms
                      clear hs
                      by_cases q1 : (1048576 : Int) < (s.size : Int)
                      · go_wp2
                        go_ret
                        exact ⟨⟨_, rfl⟩, rfl⟩
                      by_cases q2 : (1048576 : Int) < y4 + (s.size : Int)
                      · go_wp2
                        go_ret
                        exact ⟨⟨_, rfl⟩, rfl⟩
                      go_wp2
                      go_round
                      case rel => exact ⟨j4 + 1, y4 + s.size, by omega, by go_num, rfl, by omega, by omega⟩
                      case measure => simp [intOf]; omega
                    · clear hj4 t4 u4
                      by_cases t5 : (1048576 : Int) < (n5 : Int)
                      · go_wp2
                        go_ret
                        exact ⟨⟨_, rfl⟩, rfl⟩
                      by_cases u5 : (1048576 : Int) < y4 + (n5 : Int)
                      · go_wp2
                        go_ret
                        exact ⟨⟨_, rfl⟩, rfl⟩
                      go_wp2
                      go_loop [13, 19] (fun z i => ∃ (j : Nat) (y : Int), j ≤ n5 ∧ i = .int .i64 j ∧ z = .int .i64 y ∧ 0 ≤ y ∧ y ≤ 1048576) (fun _ i => n5 - (intOf i).toNat)
                      case atStart => exact ⟨0, y4 + n5, Nat.zero_le _, rfl, rfl, by omega, by omega⟩
                      case round =>
                        obtain ⟨j5, y5, hj5, rfl, rfl, l5, r5⟩ := hrel
                        by_cases hlt5 : j5 < n5
                        · obtain ⟨s, b, off, hs, ms, rfl, hb, hc⟩ := ss_at H5.out j5 hlt5
                          unfold maxLen at ms
                          clear hs
                          by_cases q1 : (1048576 : Int) < (s.size : Int)
                          · go_wp2
                            go_ret
                            exact ⟨⟨_, rfl⟩, rfl⟩
                          by_cases q2 : (1048576 : Int) < y5 + (s.size : Int)
                          · go_wp2
                            go_ret
                            exact ⟨⟨_, rfl⟩, rfl⟩
                          go_wp2
                          go_round
                          case rel => exact ⟨j5 + 1, y5 + s.size, by omega, by go_num, rfl, by omega, by omega⟩
                          case measure => simp [intOf]; omega
                        · clear hj5 t5 u5
                          go_wp2
                          go_ret
                          exact ⟨⟨_, rfl⟩, rfl⟩
end Go.Proofs.Qxb6616724a
