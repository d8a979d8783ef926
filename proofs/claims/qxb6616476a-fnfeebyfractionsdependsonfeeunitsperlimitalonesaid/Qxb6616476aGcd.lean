import Derived.Test.Qxb6616476aDiv
namespace Go.Proofs.Qxb6616476a
open Go.RowKit Go.Lib

set_option maxHeartbeats 2000000 in
/-- gcd64 -/
theorem gcd_any (a b : Nat) (w : World) : Calls Try.prog 16 #[.int .u64 a, .int .u64 b] w fun e w' => e = .returned (.int .u64 ((Nat.gcd a b : Nat) : Int)) ∧ ∃ n, w' = w.drewN n := by
  go_enter Try.func16, Try.ntmps16
  go_wp2_with fail
  go_loopw [0, 1] (fun v0 v1 wx => ∃ x y n : Nat, v0 = .int .u64 x ∧ v1 = .int .u64 y ∧ Nat.gcd x y = Nat.gcd a b ∧ wx = w.drewN n) (fun _ v1 _ => (RowKit.intOf v1).toNat)
  case atStart => exact ⟨a, b, 0, rfl, rfl, rfl, rfl⟩
  case round =>
    obtain ⟨x, y, n, rfl, rfl, hg, hw⟩ := hrel
    have HG : Hid (Nat.gcd x y = Nat.gcd a b ∧ wr = w.drewN n) := ⟨hg, hw⟩
    clear hg hw
    by_cases hy : y = 0
    · subst hy
      go_wp2_with fail
      go_ret
      refine ⟨?_, n, HG.out.2⟩
      have := HG.out.1
      rw [Nat.gcd_zero_right] at this
      rw [← this]
      rfl
    · have hy1 : ¬ (y : Int) = 0 := by omega
      have k9 : (x : Int).tmod (y : Int) = ((x % y : Nat) : Int) := rfl
      have k10 : (x : Int) % (y : Int) = ((x % y : Nat) : Int) := (Int.natCast_emod _ _).symm
      have HL : Hid (x % y < y ∧ Nat.gcd y (x % y) = Nat.gcd x y) := ⟨Nat.mod_lt _ (by omega), by rw [Nat.gcd_comm x y, Nat.gcd_rec y x, Nat.gcd_comm]⟩
      generalize x % y = z at *
      go_wp2_with fail
      go_quiet (fail)
      go_wp2_with fail
      go_roundw
      case rel => exact ⟨y, z, n + nq, rfl, by rw [← k10], HL.out.2.trans HG.out.1, by rw [HG.out.2, World.drewN_drewN]⟩
      case measure =>
        have := HL.out.1
        simp [RowKit.intOf]
        omega
end Go.Proofs.Qxb6616476a
