import Derived.Test.Qxb6616724aFmtCmp
namespace Go.Proofs.Qxb6616724aFmt
open Go.RowKit

set_option maxHeartbeats 1000000 in
theorem hasPrefix_any (b off n c b' off' n' c' : Nat) (xs ys : List Int) (w : World) (hS : BS w (some ⟨b, off, none⟩) n c xs) (hS' : BS w (some ⟨b', off', none⟩) n' c' ys) (hl : n' ≤ n) :
    Calls Tryf.prog 24 #[.slice (some ⟨b, off, none⟩) n c, .slice (some ⟨b', off', none⟩) n' c'] w fun e w' => e = .returned (.bool (xs.take n' == ys)) ∧ w' = w := by
  have HS : Hid (BS w (some ⟨b, off, none⟩) n' c (xs.take n') ∧ BS w (some ⟨b', off', none⟩) n' c' ys) := ⟨bs_take hS hl, hS'⟩
  have hm : c ≤ maxLen := hS.2.2.1
  have hnc : n ≤ c := hS.2.1
  unfold maxLen at hm
  have hnc' : (n' : Int) ≤ c := by omega
  have hge : (n' : Int) ≤ n := by omega
  clear hS hS'
  go_enter Tryf.func24, Tryf.ntmps24
  go_wp2_with fail
  refine (equal_any b off n' c b' off' n' c' (xs.take n') ys _ HS.out.1 HS.out.2).mono ?_
  rintro e wv ⟨rfl, hv⟩
  obtain rfl := hv.symm
  clear hv
  go_wp2_with fail
  go_ret
  exact ⟨rfl, rfl⟩

set_option maxHeartbeats 4000000 in
theorem compareEntries_any (b o b' o' : Nat) (a a' : Addr) (n c n' c' : Nat) (xs ys : List Int) (m m' : Int) (w : World)
    (hn : w.cell? ⟨b, o, none⟩ = some (.slice (some a) n c)) (hc : w.cell? ⟨b, o + 1, none⟩ = some (.int .u32 m)) (hn' : w.cell? ⟨b', o', none⟩ = some (.slice (some a') n' c')) (hc' : w.cell? ⟨b', o' + 1, none⟩ = some (.int .u32 m'))
    (hS : BS w (some a) n c xs) (hS' : BS w (some a') n' c' ys) :
    Calls Tryf.prog 21 #[.pointer (some ⟨b, o, none⟩), .pointer (some ⟨b', o', none⟩)] w fun e w' => e = .returned (.int .i64 (Pl.cmpE xs (m == 16384) ys (m' == 16384))) ∧ Drew w w' := by
  have hm : c ≤ maxLen := hS.2.2.1
  have hm' : c' ≤ maxLen := hS'.2.2.1
  have k1 : n ≤ c := hS.2.1
  have k2 : n' ≤ c' := hS'.2.1
  unfold maxLen at hm hm'
  obtain ⟨q, hq⟩ : ∃ q, q = min n n' := ⟨_, rfl⟩
  have q1 : q ≤ n := by omega
  have q2 : q ≤ n' := by omega
  have hmin : min (n : Int) (n' : Int) = (q : Int) := by omega
  have he : Pl.cmpE xs (m == 16384) ys (m' == 16384) = if Pl.lex (xs.take q) (ys.take q) = 0 then Pl.cmp2 (Pl.nb xs (m == 16384) q) (Pl.nb ys (m' == 16384) q) else Pl.lex (xs.take q) (ys.take q) := by
    rw [Pl.cmpE, hS.1, hS'.1, hq]
  rw [he]
  clear he hq
  have HS : Hid (BS w (some a) n c xs ∧ BS w (some a') n' c' ys) := ⟨hS, hS'⟩
  clear hS hS'
  have HT : Hid (BS w (some a) q c (xs.take q) ∧ BS w (some a') q c' (ys.take q)) := ⟨bs_take HS.out.1 q1, bs_take HS.out.2 q2⟩
  have qc : (q : Int) ≤ c := by omega
  have qc' : (q : Int) ≤ c' := by omega
  rcases Int.lt_or_le (n' : Int) n with hlt | hlt
  · obtain rfl : q = n' := by omega
    go_enter Tryf.func21, Tryf.ntmps21
    go_wp2_with fail
    go_quiet (fail)
    go_wp2_with fail
    have HD : Hid (Drew w (w.drewN nq)) := ⟨_, rfl⟩
    have HS2 : Hid ((BS (w.drewN nq) (some a) n c xs ∧ BS (w.drewN nq) (some a') q c' ys) ∧ (BS (w.drewN nq) (some a) q c (xs.take q) ∧ BS (w.drewN nq) (some a') q c' (ys.take q))) := ⟨⟨bs_drews _ HS.out.1, bs_drews _ HS.out.2⟩, ⟨bs_drews _ HT.out.1, bs_drews _ HT.out.2⟩⟩
    replace hn : (w.drewN nq).cell? ⟨b, o, none⟩ = some (.slice (some a) n c) := hn
    replace hc : (w.drewN nq).cell? ⟨b, o + 1, none⟩ = some (.int .u32 m) := hc
    replace hn' : (w.drewN nq).cell? ⟨b', o', none⟩ = some (.slice (some a') q c') := hn'
    replace hc' : (w.drewN nq).cell? ⟨b', o' + 1, none⟩ = some (.int .u32 m') := hc'
    clear HS HT
    generalize w.drewN nq = W at *
    by_cases hz : Pl.lex (xs.take q) (ys.take q) = 0
    · have hd : (Pl.lex (xs.take q) (ys.take q) != 0) = false := by simp [hz]
      go_quiet ((go_at_call 20; exact Calls.quiet_of_same (compare_any _ _ _ _ _ _ (xs.take q) (ys.take q) _ (bs_drews _ HS2.out.2.1) (bs_drews _ HS2.out.2.2))))
      go_wp2_with fail
      refine (nameByte_any b o (some a) n c xs m q (W.drewN nq) hn hc (bs_drews _ HS2.out.1.1)).mono ?_
      rintro e wv ⟨rfl, hv⟩
      obtain rfl := hv.symm
      clear hv
      go_wp2_with fail
      refine (nameByte_any b' o' (some a') q c' ys m' q (W.drewN nq) hn' hc' (bs_drews _ HS2.out.1.2)).mono ?_
      rintro e wv ⟨rfl, hv⟩
      obtain rfl := hv.symm
      clear hv
      go_wp2_with fail
      refine (cmpBytes_any _ _ _).mono ?_
      rintro e wv ⟨rfl, hv⟩
      obtain rfl := hv.symm
      clear hv
      go_wp2_with fail
      go_ret
      exact ⟨by first | rfl | (rw [if_pos hz]; rfl) | simp [hz], HD.out.more _⟩
    · have hd : (Pl.lex (xs.take q) (ys.take q) != 0) = true := by simpa using hz
      go_quiet ((go_at_call 20; exact Calls.quiet_of_same (compare_any _ _ _ _ _ _ (xs.take q) (ys.take q) _ (bs_drews _ HS2.out.2.1) (bs_drews _ HS2.out.2.2))))
      go_wp2_with fail
      go_ret
      exact ⟨by first | rfl | (rw [if_neg hz]; rfl) | simp [hz], HD.out.more _⟩
  · obtain rfl : q = n := by omega
    go_enter Tryf.func21, Tryf.ntmps21
    go_wp2_with fail
    go_quiet (fail)
    go_wp2_with fail
    have HD : Hid (Drew w (w.drewN nq)) := ⟨_, rfl⟩
    have HS2 : Hid ((BS (w.drewN nq) (some a) q c xs ∧ BS (w.drewN nq) (some a') n' c' ys) ∧ (BS (w.drewN nq) (some a) q c (xs.take q) ∧ BS (w.drewN nq) (some a') q c' (ys.take q))) := ⟨⟨bs_drews _ HS.out.1, bs_drews _ HS.out.2⟩, ⟨bs_drews _ HT.out.1, bs_drews _ HT.out.2⟩⟩
    replace hn : (w.drewN nq).cell? ⟨b, o, none⟩ = some (.slice (some a) q c) := hn
    replace hc : (w.drewN nq).cell? ⟨b, o + 1, none⟩ = some (.int .u32 m) := hc
    replace hn' : (w.drewN nq).cell? ⟨b', o', none⟩ = some (.slice (some a') n' c') := hn'
    replace hc' : (w.drewN nq).cell? ⟨b', o' + 1, none⟩ = some (.int .u32 m') := hc'
    clear HS HT
    generalize w.drewN nq = W at *
    by_cases hz : Pl.lex (xs.take q) (ys.take q) = 0
    · have hd : (Pl.lex (xs.take q) (ys.take q) != 0) = false := by simp [hz]
      go_quiet ((go_at_call 20; exact Calls.quiet_of_same (compare_any _ _ _ _ _ _ (xs.take q) (ys.take q) _ (bs_drews _ HS2.out.2.1) (bs_drews _ HS2.out.2.2))))
      go_wp2_with fail
      refine (nameByte_any b o (some a) q c xs m q (W.drewN nq) hn hc (bs_drews _ HS2.out.1.1)).mono ?_
      rintro e wv ⟨rfl, hv⟩
      obtain rfl := hv.symm
      clear hv
      go_wp2_with fail
      refine (nameByte_any b' o' (some a') n' c' ys m' q (W.drewN nq) hn' hc' (bs_drews _ HS2.out.1.2)).mono ?_
      rintro e wv ⟨rfl, hv⟩
      obtain rfl := hv.symm
      clear hv
      go_wp2_with fail
      refine (cmpBytes_any _ _ _).mono ?_
      rintro e wv ⟨rfl, hv⟩
      obtain rfl := hv.symm
      clear hv
      go_wp2_with fail
      go_ret
      exact ⟨by first | rfl | (rw [if_pos hz]; rfl) | simp [hz], HD.out.more _⟩
    · have hd : (Pl.lex (xs.take q) (ys.take q) != 0) = true := by simpa using hz
      go_quiet ((go_at_call 20; exact Calls.quiet_of_same (compare_any _ _ _ _ _ _ (xs.take q) (ys.take q) _ (bs_drews _ HS2.out.2.1) (bs_drews _ HS2.out.2.2))))
      go_wp2_with fail
      go_ret
      exact ⟨by first | rfl | (rw [if_neg hz]; rfl) | simp [hz], HD.out.more _⟩
end Go.Proofs.Qxb6616724aFmt
