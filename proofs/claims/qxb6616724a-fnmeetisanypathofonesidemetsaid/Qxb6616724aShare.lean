import Derived.Test.Qxb6616724aSearch
namespace Go.Proofs.Qxb6616724a
open Go.RowKit

/-- do the lists share a string? -/
def shr (xs ys : List ByteArray) : Bool := xs.any fun p => mem p ys
theorem shr_iff (xs ys : List ByteArray) : shr xs ys = true ↔ ∃ p ∈ xs, ∃ q ∈ ys, q.toList = p.toList := by
  simp [shr, mem]
theorem shr_comm (xs ys : List ByteArray) : shr xs ys = shr ys xs := by
  rw [Bool.eq_iff_iff, shr_iff, shr_iff]
  constructor
  · rintro ⟨p, hp, q, hq, e⟩; exact ⟨q, hq, p, hp, e.symm⟩
  · rintro ⟨p, hp, q, hq, e⟩; exact ⟨q, hq, p, hp, e.symm⟩
theorem shr_hit {xs ys : List ByteArray} {k : Nat} {p : ByteArray} (hp : xs[k]? = some p) (hm : mem p ys = true) : shr xs ys = true := by
  simp only [shr, List.any_eq_true]
  exact ⟨p, List.mem_of_getElem? hp, hm⟩
theorem shr_miss {xs ys : List ByteArray} {k : Nat} {p : ByteArray} (hp : xs[k]? = some p) (hno : shr (xs.take k) ys = false) (hm : mem p ys = false) : shr (xs.take (k + 1)) ys = false := by
  have e : xs.take (k + 1) = xs.take k ++ [p] := by rw [List.take_add_one, hp]; rfl
  rw [e]
  simp only [shr, List.any_append, List.any_cons, List.any_nil, hm, Bool.or_false] at *
  exact hno

set_option maxRecDepth 100000 in
set_option maxHeartbeats 4000000 in
theorem share_any (a1 a2 : Option Addr) (n m c1 c2 : Nat) (xs ys : List ByteArray) (w : World) (hS1 : SS w a1 n xs) (hS2 : SS w a2 m ys) (n4 : n ≤ 4096) (m4 : m ≤ 4096) (hA1 : Asc xs) (hA2 : Asc ys) :
    Calls Try.prog 14 #[.slice a1 n c1, .slice a2 m c2] w fun e w' => e = .returned (.bool (shr xs ys)) ∧ Below w.heap.size w w' := by
  have H1 : Hid (SS w a1 n xs) := hS1
  have H2 : Hid (SS w a2 m ys) := hS2
  have A1 : Hid (Asc xs) := hA1
  have A2 : Hid (Asc ys) := hA2
  clear hS1 hS2 hA1 hA2
  by_cases hsw : (m : Int) < (n : Int)
  · go_enter Try.func14, Try.ntmps14
    go_wp2_with fail
    go_loopw [17] (fun i w' => ∃ k : Nat, k ≤ m ∧ i = .int .i64 k ∧ shr (ys.take k) xs = false ∧ Below w.heap.size w w') (fun i _ => m - (intOf i).toNat)
    case atStart => exact ⟨0, Nat.zero_le _, rfl, by simp [shr], Below.refl _ _⟩
    case round =>
      obtain ⟨k, hk, rfl, hno, hb⟩ := hrel
      have HNO : Hid (shr (ys.take k) xs = false) := hno
      have HB : Hid (Below w.heap.size w wr) := hb
      clear hno hb
      by_cases hlt : k < m
      · obtain ⟨p, b, off, hp, mp, e1, hbz, hc⟩ := ss_at (ss_below HB.out H2.out) k hlt
        subst e1
        have Hp : Hid (ys[k]? = some p) := hp
        clear hp
        go_wp2_with fail
        refine (ss_any a1 n c1 p xs _ (ss_below HB.out H1.out) (by omega) A1.out).mono ?_
        rintro e w1 ⟨⟨i, rfl, hi, hbd⟩, hb1⟩
        have HB1 : Hid (Below w.heap.size w w1) := HB.out.trans (hb1.mono HB.out.size)
        obtain ⟨M1, M2⟩ := mem_of_bound xs p i hbd.1 hbd.2 A1.out
        clear hb1 hbd
        by_cases hin : i < n
        · obtain ⟨s, b2, off2, hs, ms, e2, hbz2, hc2⟩ := ss_at (ss_below HB1.out H1.out) i hin
          subst e2
          have me := M1 s hs
          have hin' : (i : Int) < (n : Int) := by omega
          clear M1 M2 hs
          cases hm : mem p xs with
          | true =>
            rw [hm] at me
            have HF : Hid (shr ys xs = true) := shr_hit Hp.out hm
            clear hm
            go_wp2_with fail
            go_ret
            exact ⟨by rw [shr_comm xs ys, HF.out]; rfl, HB1.out⟩
          | false =>
            rw [hm] at me
            have HF : Hid (shr (ys.take (k + 1)) xs = false) := shr_miss Hp.out HNO.out hm
            clear hm
            go_wp2_with fail
            exact ⟨⟨k + 1, by omega, by go_num, HF.out, HB1.out⟩, by simp [intOf]; omega⟩
        · have HF : Hid (shr (ys.take (k + 1)) xs = false) := shr_miss Hp.out HNO.out (M2 (List.getElem?_eq_none (by have := H1.out.1; omega)))
          have hin' : decide ((i : Int) < (n : Int)) = false := by simp; omega
          clear M1 M2
          go_wp2_with fail
          exact ⟨⟨k + 1, by omega, by go_num, HF.out, HB1.out⟩, by simp [intOf]; omega⟩
      · have HF : Hid (shr ys xs = false) := by have := HNO.out; rwa [List.take_of_length_le (by have := H2.out.1; omega)] at this
        go_wp2_with fail
        go_ret
        exact ⟨by rw [shr_comm xs ys, HF.out]; rfl, HB.out⟩
  · go_enter Try.func14, Try.ntmps14
    go_wp2_with fail
    go_loopw [17] (fun i w' => ∃ k : Nat, k ≤ n ∧ i = .int .i64 k ∧ shr (xs.take k) ys = false ∧ Below w.heap.size w w') (fun i _ => n - (intOf i).toNat)
    case atStart => exact ⟨0, Nat.zero_le _, rfl, by simp [shr], Below.refl _ _⟩
    case round =>
      obtain ⟨k, hk, rfl, hno, hb⟩ := hrel
      have HNO : Hid (shr (xs.take k) ys = false) := hno
      have HB : Hid (Below w.heap.size w wr) := hb
      clear hno hb
      by_cases hlt : k < n
      · obtain ⟨p, b, off, hp, mp, e1, hbz, hc⟩ := ss_at (ss_below HB.out H1.out) k hlt
        subst e1
        have Hp : Hid (xs[k]? = some p) := hp
        clear hp
        go_wp2_with fail
        refine (ss_any a2 m c2 p ys _ (ss_below HB.out H2.out) (by omega) A2.out).mono ?_
        rintro e w1 ⟨⟨i, rfl, hi, hbd⟩, hb1⟩
        have HB1 : Hid (Below w.heap.size w w1) := HB.out.trans (hb1.mono HB.out.size)
        obtain ⟨M1, M2⟩ := mem_of_bound ys p i hbd.1 hbd.2 A2.out
        clear hb1 hbd
        by_cases hin : i < m
        · obtain ⟨s, b2, off2, hs, ms, e2, hbz2, hc2⟩ := ss_at (ss_below HB1.out H2.out) i hin
          subst e2
          have me := M1 s hs
          have hin' : (i : Int) < (m : Int) := by omega
          clear M1 M2 hs
          cases hm : mem p ys with
          | true =>
            rw [hm] at me
            have HF : Hid (shr xs ys = true) := shr_hit Hp.out hm
            clear hm
            go_wp2_with fail
            go_ret
            exact ⟨by rw [HF.out]; rfl, HB1.out⟩
          | false =>
            rw [hm] at me
            have HF : Hid (shr (xs.take (k + 1)) ys = false) := shr_miss Hp.out HNO.out hm
            clear hm
            go_wp2_with fail
            exact ⟨⟨k + 1, by omega, by go_num, HF.out, HB1.out⟩, by simp [intOf]; omega⟩
        · have HF : Hid (shr (xs.take (k + 1)) ys = false) := shr_miss Hp.out HNO.out (M2 (List.getElem?_eq_none (by have := H2.out.1; omega)))
          have hin' : decide ((i : Int) < (m : Int)) = false := by simp; omega
          clear M1 M2
          go_wp2_with fail
          exact ⟨⟨k + 1, by omega, by go_num, HF.out, HB1.out⟩, by simp [intOf]; omega⟩
      · have HF : Hid (shr xs ys = false) := by have := HNO.out; rwa [List.take_of_length_le (by have := H1.out.1; omega)] at this
        go_wp2_with fail
        go_ret
        exact ⟨by rw [HF.out]; rfl, HB.out⟩
end Go.Proofs.Qxb6616724a
