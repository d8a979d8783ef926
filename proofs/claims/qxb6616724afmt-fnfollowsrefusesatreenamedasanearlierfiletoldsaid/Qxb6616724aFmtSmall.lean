import Derived.Test.Qxb6616724aFmtValid
import Derived.Lib.Bytealg
import Derived.Laws.BytesArg
import Derived.Lib.Bytes
import Derived.Deep.RegionHeld3
namespace Go.Proofs.Qxb6616724aFmt
open Go.RowKit

set_option maxHeartbeats 1000000 in
theorem isTree_any (b o : Nat) (m : Int) (w : World) (hc : w.cell? ⟨b, o + 1, none⟩ = some (.int .u32 m)) :
    Calls Tryf.prog 19 #[.pointer (some ⟨b, o, none⟩)] w fun e w' => e = .returned (.bool (m == 16384)) ∧ w' = w := by
  go_enter Tryf.func19, Tryf.ntmps19
  go_wp2
  go_ret
  exact ⟨rfl, rfl⟩

set_option maxHeartbeats 1000000 in
theorem last_any (T : Nat) (w : World) (hc : w.cell? ⟨T, 9, none⟩ = some (.int .i64 0)) :
    Calls Tryf.prog 18 #[.pointer (some ⟨T, 0, none⟩)] w fun e w' => e = .returned (.pointer (some ⟨T, 3, none⟩)) ∧ Drew w w' := by
  go_enter Tryf.func18, Tryf.ntmps18
  go_wp2_with fail
  go_quiet (fail)
  go_wp2_with fail
  go_ret
  exact ⟨rfl, _, rfl⟩

set_option maxHeartbeats 1000000 in
theorem isNaN_any (x : Int) (w : World) : Calls Tryf.prog 30 #[.int .u8 x] w fun e w' => e = .returned (.bool false) ∧ w' = w := by
  go_enter Tryf.func30, Tryf.ntmps30
  go_wp2
  go_ret
  exact ⟨by simp, rfl⟩

set_option maxHeartbeats 1000000 in
theorem cmpBytes_any (x y : Int) (w : World) : Calls Tryf.prog 26 #[.int .u8 x, .int .u8 y] w fun e w' => e = .returned (.int .i64 (Pl.cmp2 x y)) ∧ w' = w := by
  go_enter Tryf.func26, Tryf.ntmps26
  go_wp2_with fail
  refine (isNaN_any x _).mono ?_
  rintro e wv ⟨rfl, hv⟩
  obtain rfl := hv.symm
  clear hv
  go_wp2_with fail
  refine (isNaN_any y _).mono ?_
  rintro e wv ⟨rfl, hv⟩
  obtain rfl := hv.symm
  clear hv
  by_cases h1 : x < y
  · go_wp2_with fail
    go_ret
    exact ⟨by rw [Pl.cmp2, if_pos h1]; rfl, rfl⟩
  · by_cases h2 : y < x
    · go_wp2_with fail
      go_ret
      exact ⟨by rw [Pl.cmp2, if_neg (by omega), if_pos (by omega)]; rfl, rfl⟩
    · go_wp2_with fail
      go_ret
      exact ⟨by rw [Pl.cmp2, if_neg (by omega), if_neg (by omega)]; rfl, rfl⟩

set_option maxHeartbeats 1000000 in
theorem nameByte_any (b o : Nat) (a : Option Addr) (n c : Nat) (xs : List Int) (m : Int) (k : Nat) (w : World) (hn : w.cell? ⟨b, o, none⟩ = some (.slice a n c)) (hc : w.cell? ⟨b, o + 1, none⟩ = some (.int .u32 m)) (hS : BS w a n c xs) :
    Calls Tryf.prog 27 #[.pointer (some ⟨b, o, none⟩), .int .i64 k] w fun e w' => e = .returned (.int .u8 (Pl.nb xs (m == 16384) k)) ∧ w' = w := by
  have hm : n ≤ maxLen := Nat.le_trans hS.2.1 hS.2.2.1
  unfold maxLen at hm
  have hl := hS.1
  by_cases h : k < n
  · obtain ⟨x, b2, off, hs, hx, rfl, hb, hcc⟩ := bs_at hS k h
    have e : Pl.nb xs (m == 16384) k = x := by unfold Pl.nb; rw [if_pos (by omega), List.getD, hs]; rfl
    rw [e]
    clear hS hl e hs
    go_enter Tryf.func27, Tryf.ntmps27
    go_wp2
    go_ret
    exact ⟨rfl, rfl⟩
  · have e : Pl.nb xs (m == 16384) k = if (m == 16384) then 47 else 0 := by unfold Pl.nb; rw [if_neg (by omega)]
    rw [e]
    clear hS hl e
    cases ht : (m == 16384) with
    | true =>
      go_enter Tryf.func27, Tryf.ntmps27
      go_wp2_with fail
      refine (isTree_any b o m _ hc).mono ?_
      rw [ht]
      rintro e wv ⟨rfl, hv⟩
      obtain rfl := hv.symm
      clear hv
      go_wp2_with fail
      go_ret
      exact ⟨rfl, rfl⟩
    | false =>
      go_enter Tryf.func27, Tryf.ntmps27
      go_wp2_with fail
      refine (isTree_any b o m _ hc).mono ?_
      rw [ht]
      rintro e wv ⟨rfl, hv⟩
      obtain rfl := hv.symm
      clear hv
      go_wp2_with fail
      go_ret
      exact ⟨rfl, rfl⟩
end Go.Proofs.Qxb6616724aFmt
