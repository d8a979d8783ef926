import Derived.Test.Qxb6616491aChain
import Derived.Lib.Builder
import Derived.LaidEqlPtr
import Derived.Deep.QuietTactic
import Derived.BigQuiet
namespace Go.Proofs.Qxb6616491a
open Go.RowKit Go.Deep

theorem asBin_ptr (a : Option Addr) (w : World) : Calls Try.prog 14 #[.iface 25 (.pointer a)] w fun e w' => e = .returned (.pointer a) ∧ w' = w := by
  have t1 := ta_bin
  go_enter Try.func14, Try.ntmps14
  go_wp2
  go_ret
  exact ⟨rfl, rfl⟩
theorem asBin_nil (w : World) : Calls Try.prog 14 #[.nilIface] w fun e w' => e = .returned (.pointer none) ∧ w' = w := by
  have t1 := ta_nil
  go_enter Try.func14, Try.ntmps14
  go_wp2
  go_ret
  exact ⟨rfl, rfl⟩

theorem Try.info29 : ∃ i, Try.prog.info? 29 = some i := by
  have h : (Try.prog.info? 29).isSome = true := by kernel_rfl
  exact Option.isSome_iff_exists.1 h
theorem neq_same (a : Addr) (w : World) : (binOp .neq 25 (.pointer (some a)) (.pointer (some a))).run Try.prog w = .ok (.bool false) w := by
  obtain ⟨j, hj⟩ := Try.info29
  exact Lib.run_neq_ptr_same w a Try.underlying25 hj
theorem eql_same (a : Addr) (w : World) : (binOp .eql 25 (.pointer (some a)) (.pointer (some a))).run Try.prog w = .ok (.bool true) w := by
  obtain ⟨j, hj⟩ := Try.info29
  exact run_eql_ptr_same w a Try.underlying25 hj

/-- a slice of expressions lies in memory -/
def Row (w : World) (g : Nat) (xs : List Value) : Prop := g < w.heap.size ∧ ∀ j u, xs[j]? = some u → w.cell? ⟨g, j, none⟩ = some u
theorem row_below {w w' : World} {g : Nat} {xs : List Value} (hb : Below w.heap.size w w') (h : Row w g xs) : Row w' g xs :=
  ⟨Nat.lt_of_lt_of_le h.1 hb.size, fun j u hu => (hb.cell (p := ⟨g, j, none⟩) h.1).trans (h.2 j u hu)⟩

theorem tms_at (ls : List (Nat × ByteArray)) (k : Nat) (lk : Nat × ByteArray) (h : ls[k]? = some lk) :
    (∀ i, i < (tm lk).length → (tms ls)[(tms (ls.take k)).length + i]? = (tm lk)[i]?) ∧ (tms (ls.take k)).length + (tm lk).length ≤ (tms ls).length ∧ (tms (ls.take (k + 1))).length = (tms (ls.take k)).length + (tm lk).length := by
  have e1 : ls.take (k + 1) = ls.take k ++ [lk] := take_snoc h
  have e : tms ls = tms (ls.take k) ++ (tm lk ++ tms (ls.drop (k + 1))) := by
    conv => lhs; rw [← List.take_append_drop (k + 1) ls, tms_app, e1, tms_snoc]
    rw [List.append_assoc]
  refine ⟨fun i hi => ?_, ?_, ?_⟩
  · rw [e, List.getElem?_append_right (by omega), List.getElem?_append_left (by omega)]
    congr 1; omega
  · rw [e]; simp
  · rw [e1, tms_snoc, List.length_append]

set_option maxHeartbeats 2000000 in
theorem terms_any (g m cap b off n c : Nat) (ls : List (Nat × ByteArray)) (w : World) (hn : ls.length = n) (hm : n ≤ 4096) (hL : Leaves w b off ls) (hR : Row w g (tms ls)) (hx : (tms ls).length = m) :
    Calls Try.prog 6 #[.slice (some ⟨g, 0, none⟩) m cap, .slice (some ⟨b, off, none⟩) n c] w fun e w' => e = .returned (.bool true) ∧ Below w.heap.size w w' := by
  have hm2 : m ≤ 8192 := by have := tms_len ls; omega
  have HL : Hid (Leaves w b off ls) := hL
  have HR : Hid (Row w g (tms ls)) := hR
  have HX : Hid ((tms ls).length = m) := hx
  have HN : Hid (ls.length = n) := hn
  clear hL hR hx hn
  go_enter Try.func6, Try.ntmps6
  go_wp2
  go_loopw [5, 6] (fun j i w' => ∃ (k jj : Nat), k ≤ n ∧ i = .int .i64 k ∧ j = .int .i64 jj ∧ jj = (tms (ls.take k)).length ∧ Below w.heap.size w w') (fun _ i _ => n - (intOf i).toNat)
  case atStart => exact ⟨0, 0, Nat.zero_le _, rfl, rfl, by simp [tms], Below.refl _ _⟩
  case round =>
    obtain ⟨k, jj, hkn, rfl, rfl, hj, hb⟩ := hrel
    by_cases hlt : k < n
    · obtain ⟨lk, hlk⟩ : ∃ l, ls[k]? = some l := ⟨ls[k]'(by have := HN.out; omega), by simp⟩
      obtain ⟨ck, rk⟩ := (leaves_below hb HL.out).2 k lk hlk
      obtain ⟨q0, q1, q2, q3, _, _⟩ := rk
      have hrow := row_below hb HR.out
      obtain ⟨hsplit, hle0, hnext⟩ := tms_at ls k lk hlk
      rw [← hj] at hsplit hle0 hnext
      have hle : jj + (tm lk).length ≤ m := by rw [← HX.out]; exact hle0
      have Hj : Hid (jj = (tms (ls.take k)).length) := hj
      have Hb : Hid (Below w.heap.size w wr) := hb
      clear hj hb
      by_cases ha : isAnd lk.2 = true
      · have etm : tm lk = [.nilIface, .nilIface] := by simp [tm, lf, conj, ha]
        rw [etm] at hsplit hle
        have r0 := hrow.2 jj .nilIface (by simpa using hsplit 0 (by simp))
        have r1 := hrow.2 (jj + 1) .nilIface (by simpa using hsplit 1 (by simp))
        have ha' : (lk.2.toList == [65, 78, 68]) = true := ha
        simp only [List.length_cons, List.length_nil] at hle
        have Hnext : Hid ((tms (ls.take (k + 1))).length = jj + 2) := by rw [etm] at hnext; exact hnext
        clear hrow hsplit etm ha hle0 hnext
        go_wp2
        exact ⟨⟨k + 1, jj + 2, by omega, by go_num, by go_num, Hnext.out.symm, Hb.out⟩, by simp [intOf]; omega⟩
      · have ha' : (lk.2.toList == [65, 78, 68]) = false := by simpa [isAnd] using ha
        have etm : tm lk = [.iface 25 (.pointer (some ⟨lk.1, 0, none⟩))] := by simp [tm, lf, conj, ha]
        rw [etm] at hsplit hle
        have r0 := hrow.2 jj (.iface 25 (.pointer (some ⟨lk.1, 0, none⟩))) (by simpa using hsplit 0 (by simp))
        simp only [List.length_cons, List.length_nil] at hle
        have Hnext : Hid ((tms (ls.take (k + 1))).length = jj + 1) := by rw [etm] at hnext; exact hnext
        clear hrow hsplit etm ha hle0 hnext
        have hj1 : (jj : Int) < (m : Int) := by omega
        have hk1 : (k : Int) < (n : Int) := by omega
        go_wp2
        have n1 := neq_same
        go_quiet ((go_at_call 14; exact Calls.quiet_of_same (asBin_ptr _ _)))
        go_wp2
        exact ⟨⟨k + 1, jj + 1, by omega, by go_num, by go_num, Hnext.out.symm, Hb.out.trans ⟨rfl, rfl, rfl, Nat.le_refl _, fun _ _ => rfl⟩⟩, by simp [intOf]; omega⟩
    · have ek : k = n := by omega
      have ej : ((jj : Int) == (m : Int)) = true := by
        rw [ek, List.take_of_length_le (by have := HN.out; omega), HX.out] at hj
        simp [hj]
      clear hj
      have Hb : Hid (Below w.heap.size w wr) := hb
      clear hb
      go_wp2
      go_ret
      exact ⟨rfl, Hb.out⟩
end Go.Proofs.Qxb6616491a
