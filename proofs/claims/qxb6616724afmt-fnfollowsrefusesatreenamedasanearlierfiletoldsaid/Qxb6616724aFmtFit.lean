import Derived.Test.Qxb6616724aFmtLeaf
import Derived.Deep.DeepCutAuto
namespace Go.Proofs.Qxb6616724aFmt
open Go.RowKit

/-- it returns a bool; true only if the entries fit -/
def Fits (vs : List NV) (ms : List Int) : Prop := vs.length ≤ 1024 ∧ vs.length = ms.length ∧ (∀ (i : Nat) (v : NV), vs[i]? = some v → Pl.okName v.xs) ∧ ∀ (i : Nat) (m : Int), ms[i]? = some m → m ≠ 0
def IsF (vs : List NV) (ms : List Int) (e : Ending) : Prop := ∃ t, e = .returned (.bool t) ∧ (t = true → Fits vs ms)

set_option maxHeartbeats 2000000 in
theorem fits_any (a a' : Option Addr) (n c n' c' : Nat) (vs : List NV) (ms : List Int) (w : World) (hS : NS w a n vs) (hM : MS w a' n' ms) :
    Calls Tryf.prog 5 #[.slice a n c, .slice a' n' c'] w fun e w' => IsF vs ms e ∧ w' = w := by
  have hm : n ≤ maxLen := hS.2.1
  have hm' : n' ≤ maxLen := hM.2.1
  unfold maxLen at hm hm'
  have HS : Hid (NS w a n vs) := hS
  have HM : Hid (MS w a' n' ms) := hM
  clear hS hM
  have no : IsF vs ms (.returned (.bool false)) := ⟨false, rfl, fun h => by cases h⟩
  have NO : Hid (IsF vs ms (.returned (.bool false))) := no
  clear no
  go_enter Tryf.func5, Tryf.ntmps5
  go_wp2_with fail
  refine (spend_any a n c vs _ HS.out).mono ?_
  rintro e wv ⟨⟨r, rfl, r0, r1⟩, hv⟩
  obtain rfl := hv.symm
  clear hv
  by_cases h1 : r < 0
  · go_wp2_with fail
    go_ret
    exact ⟨NO.out, rfl⟩
  have q : r.tdiv 4 = r / 4 := Int.tdiv_eq_ediv_of_nonneg (by omega)
  have q0 : r.tdiv 4 ≤ 262144 := by omega
  have q1 : 0 ≤ r.tdiv 4 := by omega
  clear q
  by_cases h2 : r.tdiv 4 < (n' : Int)
  · go_wp2_with fail
    go_ret
    exact ⟨NO.out, rfl⟩
  by_cases h3 : (1024 : Int) < n
  · go_wp2_with fail
    go_ret
    exact ⟨NO.out, rfl⟩
  by_cases h4 : (n : Int) = n'
  · obtain rfl : n = n' := by omega
    go_wp2_with fail
    go_loop [6] (fun i => ∃ (k : Nat), k ≤ n ∧ i = .int .i64 k ∧ (∀ (t : Nat) (v : NV), t < k → vs[t]? = some v → Pl.okName v.xs) ∧ ∀ (t : Nat) (m : Int), t < k → ms[t]? = some m → m ≠ 0) (fun i => n - (intOf i).toNat)
    case atStart => exact ⟨0, Nat.zero_le _, rfl, fun t v h => by omega, fun t v h => by omega⟩
    case round =>
      obtain ⟨k, hk, rfl, hI⟩ := hrel
      have HI : Hid ((∀ (t : Nat) (v : NV), t < k → vs[t]? = some v → Pl.okName v.xs) ∧ ∀ (t : Nat) (m : Int), t < k → ms[t]? = some m → m ≠ 0) := hI
      clear hI
      by_cases hlt : k < n
      · obtain ⟨d, m, cc, xs, b, off, hs, hB, rfl, hb, hc⟩ := ns_at HS.out k hlt
        obtain ⟨mo, b', off', hs', rfl, hb', hc'⟩ := ms_at HM.out k hlt
        have Hs : Hid (vs[k]? = some (d, m, cc, xs) ∧ ms[k]? = some mo) := ⟨hs, hs'⟩
        have HB : Hid (BS _ d m cc xs) := hB
        clear hs hB hs'
        by_cases hz : mo = 0
        · subst hz
          go_wp2_with fail
          go_ret
          exact ⟨NO.out, rfl⟩
        · have d0 : (mo == 0) = false := by simpa using hz
          have HZ : Hid (mo ≠ 0) := hz
          clear hz
          go_wp2_with fail
          refine (nameFits_any d m cc xs _ HB.out).mono ?_
          rintro e wv ⟨⟨t, rfl, ht⟩, hv⟩
          obtain rfl := hv.symm
          clear hv
          cases t with
          | false =>
            clear ht
            go_wp2_with fail
            go_ret
            exact ⟨NO.out, rfl⟩
          | true =>
            have HT : Hid (Pl.okName xs) := ht rfl
            clear ht
            go_wp2_with fail
            refine ⟨⟨k + 1, by omega, by go_num, ?_, ?_⟩, by simp [intOf]; omega⟩
            · intro t v ht hv
              rcases Nat.lt_or_ge t k with h | h
              · exact HI.out.1 t v h hv
              · obtain rfl : t = k := by omega
                rw [Hs.out.1] at hv
                cases hv
                exact HT.out
            · intro t v ht hv
              rcases Nat.lt_or_ge t k with h | h
              · exact HI.out.2 t v h hv
              · obtain rfl : t = k := by omega
                rw [Hs.out.2] at hv
                cases hv
                exact HZ.out
      · have HF : Hid (Fits vs ms) := by
          have l1 := HS.out.1
          have l2 := HM.out.1
          refine ⟨by omega, by omega, fun i v hv => HI.out.1 i v ?_ hv, fun i v hv => HI.out.2 i v ?_ hv⟩
          · have := (List.getElem?_eq_some_iff.1 hv).1
            omega
          · have := (List.getElem?_eq_some_iff.1 hv).1
            omega
        clear HI
        go_wp2_with fail
        go_ret
        exact ⟨⟨true, rfl, fun _ => HF.out⟩, rfl⟩
  · have d4 : ((n : Int) != n') = true := by simpa using h4
    go_wp2_with fail
    go_ret
    exact ⟨NO.out, rfl⟩

/-- byte k of a key -/
def kb (xs : List Int) (k : Nat) : Int := if k < xs.length then xs.getD k 0 else 47
theorem kb_byte {w : World} {a : Option Addr} {n c : Nat} {xs : List Int} (h : BS w a n c xs) (k : Nat) : 0 ≤ kb xs k ∧ kb xs k < 256 := by
  unfold kb
  split
  · rename_i hk
    have := (h.2.2.2 k xs[k] (by simp)).1
    simpa [List.getD, hk] using this
  · omega
theorem key_get (xs : List Int) (t : Bool) (k : Nat) (h : k < (Pl.key xs t).length) : (Pl.key xs t)[k]? = some (kb xs k) := by
  cases t
  · simp only [Pl.key, Bool.false_eq_true, if_false] at h ⊢
    simp [kb, List.getD, h]
  · simp only [Pl.key, if_true, List.length_append, List.length_cons, List.length_nil] at h ⊢
    rcases Nat.lt_or_ge k xs.length with h1 | h1
    · rw [List.getElem?_append_left h1]
      simp [kb, List.getD, h1]
    · obtain rfl : k = xs.length := by omega
      simp [kb]
theorem key_len (xs : List Int) (t : Bool) : (Pl.key xs t).length = xs.length + (if t then 1 else 0) := by cases t <;> simp [Pl.key]

set_option maxHeartbeats 1000000 in
theorem keyAt_any (a : Option Addr) (n c : Nat) (xs : List Int) (k : Nat) (w : World) (hS : BS w a n c xs) :
    Calls Tryf.prog 16 #[.slice a n c, .int .i64 k] w fun e w' => e = .returned (.int .u8 (kb xs k)) ∧ w' = w := by
  have hm : n ≤ maxLen := Nat.le_trans hS.2.1 hS.2.2.1
  unfold maxLen at hm
  have hn := hS.1
  by_cases h : k < n
  · obtain ⟨x, b, off, hs, hx, rfl, hb, hc⟩ := bs_at hS k h
    have e : kb xs k = x := by unfold kb; rw [if_pos (by omega), List.getD, hs]; rfl
    rw [e]
    clear hS hn e hs
    go_enter Tryf.func16, Tryf.ntmps16
    go_wp2
    go_ret
    exact ⟨rfl, rfl⟩
  · have e : kb xs k = 47 := by unfold kb; rw [if_neg (by omega)]
    rw [e]
    clear hS hn e
    go_enter Tryf.func16, Tryf.ntmps16
    go_wp2
    go_ret
    exact ⟨rfl, rfl⟩

theorem lex_drop : ∀ (k : Nat) (A B : List Int), A.take k = B.take k → k ≤ A.length → k ≤ B.length → Pl.lex A B = Pl.lex (A.drop k) (B.drop k)
  | 0, _, _, _, _, _ => rfl
  | k + 1, [], _, _, h, _ => by simp at h
  | k + 1, _ :: _, [], _, _, h => by simp at h
  | k + 1, x :: A, y :: B, h, h1, h2 => by
    simp only [List.take_succ_cons, List.cons.injEq] at h
    simp only [Pl.lex, h.1, if_true, List.drop_succ_cons]
    exact lex_drop k A B h.2 (by simpa using h1) (by simpa using h2)
theorem lex_diff {k : Nat} {A B : List Int} {x y : Int} (h : A.take k = B.take k) (hx : A[k]? = some x) (hy : B[k]? = some y) (hne : x ≠ y) : Pl.lex A B = if x < y then -1 else 1 := by
  obtain ⟨ha, ea⟩ := List.getElem?_eq_some_iff.1 hx
  obtain ⟨hb, eb⟩ := List.getElem?_eq_some_iff.1 hy
  rw [lex_drop k A B h (by omega) (by omega), List.drop_eq_getElem_cons ha, List.drop_eq_getElem_cons hb, Pl.lex, ea, eb, if_neg hne]
theorem take_snoc {k : Nat} {A B : List Int} {x : Int} (h : A.take k = B.take k) (hx : A[k]? = some x) (hy : B[k]? = some x) : A.take (k + 1) = B.take (k + 1) := by
  rw [List.take_add_one, List.take_add_one, h, hx, hy]
theorem lex_len {k : Nat} {A B : List Int} (h : A.take k = B.take k) (ha : k ≤ A.length) (hb : k ≤ B.length) (he : A.length ≤ k ∨ B.length ≤ k) : Pl.lex A B = if A.length < B.length then -1 else if B.length < A.length then 1 else 0 := by
  rw [lex_drop k A B h ha hb]
  have la : (A.drop k).length = A.length - k := by simp
  have lb : (B.drop k).length = B.length - k := by simp
  cases hA : A.drop k with
  | nil =>
    rw [hA] at la
    simp at la
    cases hB : B.drop k with
    | nil =>
      rw [hB] at lb
      simp at lb
      rw [Pl.lex, if_neg (by omega), if_neg (by omega)]
    | cons y B' =>
      rw [hB] at lb
      simp at lb
      rw [Pl.lex, if_pos (by omega)]
  | cons x A' =>
    rw [hA] at la
    simp at la
    cases hB : B.drop k with
    | nil =>
      rw [hB] at lb
      simp at lb
      rw [Pl.lex, if_neg (by omega), if_pos (by omega)]
    | cons y B' =>
      rw [hB] at lb
      simp at lb
      omega

set_option maxHeartbeats 4000000 in
theorem keyCmp_any (a a' : Option Addr) (n c n' c' : Nat) (xs ys : List Int) (t t' : Bool) (w : World) (hS : BS w a n c xs) (hS' : BS w a' n' c' ys) (hs : n ≤ 1048576) (hs' : n' ≤ 1048576) :
    Calls Tryf.prog 9 #[.slice a n c, .bool t, .slice a' n' c', .bool t'] w fun e w' => e = .returned (.int .i64 (Pl.lex (Pl.key xs t) (Pl.key ys t'))) ∧ w' = w := by
  have HS : Hid (BS w a n c xs ∧ BS w a' n' c' ys) := ⟨hS, hS'⟩
  obtain ⟨N, hN⟩ : ∃ N, N = (Pl.key xs t).length := ⟨_, rfl⟩
  obtain ⟨M, hM⟩ : ∃ M, M = (Pl.key ys t').length := ⟨_, rfl⟩
  have kN : N = n + (if t then 1 else 0) := by rw [hN, key_len, hS.1]
  have kM : M = n' + (if t' then 1 else 0) := by rw [hM, key_len, hS'.1]
  have HL : Hid (N = (Pl.key xs t).length ∧ M = (Pl.key ys t').length) := ⟨hN, hM⟩
  clear hS hS' hN hM
  have bN : N ≤ 1048577 := by cases t <;> simp at kN <;> omega
  have bM : M ≤ 1048577 := by cases t' <;> simp at kM <;> omega
  go_enter Tryf.func9, Tryf.ntmps9
  go_upto_if 16 with (fail)
  go_cut [9] (fun la _w' => la = .int .i64 N ∧ _w' = w)
  case first =>
    cases t with
    | false =>
      simp at kN
      subst kN
      go_wp2_with fail
      go_meet
      case rel => exact ⟨rfl, rfl⟩
    | true =>
      simp at kN
      subst kN
      go_wp2_with fail
      go_meet
      case rel => exact ⟨by go_num, rfl⟩
  case rest =>
    obtain ⟨rfl, rfl⟩ := hcut
    go_upto_if 21 with (fail)
    go_cut [10] (fun la _w' => la = .int .i64 M ∧ _w' = wc)
    case first =>
      cases t' with
      | false =>
        simp at kM
        subst kM
        go_wp2_with fail
        go_meet
        case rel => exact ⟨rfl, rfl⟩
      | true =>
        simp at kM
        subst kM
        go_wp2_with fail
        go_meet
        case rel => exact ⟨by go_num, rfl⟩
    case rest =>
      obtain ⟨rfl, rfl⟩ := hcut
      clear kN kM
      go_wp2_with fail
      go_loop [11] (fun i => ∃ (k : Nat), k ≤ N ∧ k ≤ M ∧ i = .int .i64 k ∧ (Pl.key xs t).take k = (Pl.key ys t').take k) (fun i => N - (intOf i).toNat)
      case atStart => exact ⟨0, Nat.zero_le _, Nat.zero_le _, rfl, rfl⟩
      case round =>
        obtain ⟨k, hk, hk', rfl, hI⟩ := hrel
        have HI : Hid ((Pl.key xs t).take k = (Pl.key ys t').take k) := hI
        clear hI
        by_cases hlt : k < N ∧ k < M
        · obtain ⟨l1, l2⟩ := hlt
          have l1' : (k : Int) < N := by omega
          have l2' : (k : Int) < M := by omega
          have hx := key_get xs t k (by have := HL.out.1; omega)
          have hy := key_get ys t' k (by have := HL.out.2; omega)
          obtain ⟨x0, x1⟩ := kb_byte HS.out.1 k
          obtain ⟨y0, y1⟩ := kb_byte HS.out.2 k
          have HX : Hid ((Pl.key xs t)[k]? = some (kb xs k) ∧ (Pl.key ys t')[k]? = some (kb ys k)) := ⟨hx, hy⟩
          clear hx hy
          go_wp2_with fail
          refine (keyAt_any a n c xs k _ HS.out.1).mono ?_
          rintro e wv ⟨rfl, hv⟩
          obtain rfl := hv.symm
          clear hv
          go_wp2_with fail
          refine (keyAt_any a' n' c' ys k _ HS.out.2).mono ?_
          rintro e wv ⟨rfl, hv⟩
          obtain rfl := hv.symm
          clear hv
          generalize kb xs k = x at *
          generalize kb ys k = y at *
          by_cases he : x = y
          · subst he
            have HN : Hid ((Pl.key xs t).take (k + 1) = (Pl.key ys t').take (k + 1)) := take_snoc HI.out HX.out.1 HX.out.2
            clear HX HI
            go_wp2_with fail
            exact ⟨⟨k + 1, by omega, by omega, by go_num, HN.out⟩, by simp [intOf]; omega⟩
          · have hd : (x != y) = true := by simpa using he
            have HN : Hid (Pl.lex (Pl.key xs t) (Pl.key ys t') = if x < y then -1 else 1) := lex_diff HI.out HX.out.1 HX.out.2 he
            clear HX HI
            by_cases hl : x < y
            · go_wp2_with fail
              go_ret
              exact ⟨by rw [HN.out, if_pos hl]; rfl, rfl⟩
            · go_wp2_with fail
              go_ret
              exact ⟨by rw [HN.out, if_neg (by omega)]; rfl, rfl⟩
        · have HN : Hid (Pl.lex (Pl.key xs t) (Pl.key ys t') = if N < M then -1 else if M < N then 1 else 0) := by
            have e1 := HL.out.1
            have e2 := HL.out.2
            have := lex_len HI.out (by omega) (by omega) (by omega)
            rw [e1, e2]
            exact this
          clear HI
          by_cases q1 : k < N
          · have q2 : ¬ k < M := fun h => hlt ⟨q1, h⟩
            have q3 : (k : Int) < N := by omega
            have q4 : ¬ (k : Int) < M := by omega
            have q5 : ¬ (N : Int) < M := by omega
            have q6 : (M : Int) < N := by omega
            go_wp2_with fail
            go_ret
            exact ⟨by rw [HN.out, if_neg (by omega), if_pos (by omega)]; rfl, rfl⟩
          · have q3 : ¬ (k : Int) < N := by omega
            by_cases q5 : (N : Int) < M
            · go_wp2_with fail
              go_ret
              exact ⟨by rw [HN.out, if_pos (by omega)]; rfl, rfl⟩
            · have q6 : ¬ (M : Int) < N := by omega
              go_wp2_with fail
              go_ret
              exact ⟨by rw [HN.out, if_neg (by omega), if_neg (by omega)]; rfl, rfl⟩
end Go.Proofs.Qxb6616724aFmt
