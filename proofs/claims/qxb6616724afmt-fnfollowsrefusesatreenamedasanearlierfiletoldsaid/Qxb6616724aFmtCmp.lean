import Derived.Test.Qxb6616724aFmtSmall
import Derived.Lib.BytesEntry
namespace Go.Proofs.Qxb6616724aFmt
open Go.RowKit

theorem lex_bytes : ∀ (xs ys : List Int), (∀ x ∈ xs, 0 ≤ x ∧ x < 256) → (∀ x ∈ ys, 0 ≤ x ∧ x < 256) → Lib.compareBytes (Lib.bytesOf xs) (Lib.bytesOf ys) = Pl.lex xs ys
  | [], [], _, _ => rfl
  | [], _ :: _, _, _ => rfl
  | _ :: _, [], _, _ => rfl
  | x :: xs, y :: ys, hx, hy => by
    have ih := lex_bytes xs ys (fun z hz => hx z (by simp [hz])) (fun z hz => hy z (by simp [hz]))
    have h1 := hx x (by simp)
    have h2 := hy y (by simp)
    have key : ∀ a b : Int, 0 ≤ a ∧ a < 256 → 0 ≤ b ∧ b < 256 → (UInt8.ofNat a.toNat < UInt8.ofNat b.toNat ↔ a < b) := by
      intro a b ha hb
      rw [UInt8.lt_iff_toNat_lt]
      simp
      omega
    show (if UInt8.ofNat x.toNat < UInt8.ofNat y.toNat then (-1 : Int) else if UInt8.ofNat y.toNat < UInt8.ofNat x.toNat then 1 else Lib.compareBytes (Lib.bytesOf xs) (Lib.bytesOf ys)) = _
    rw [ih, Pl.lex]
    rcases Int.lt_trichotomy x y with h | h | h
    · rw [if_pos ((key x y h1 h2).2 h), if_neg (by omega), if_pos h]
    · subst h
      rw [if_neg (by rw [key x x h1 h1]; omega), if_neg (by rw [key x x h1 h1]; omega), if_pos rfl]
    · rw [if_neg (by rw [key x y h1 h2]; omega), if_pos ((key y x h2 h1).2 h), if_neg (by omega), if_neg (by omega)]

theorem bs_bytes {w : World} {a : Option Addr} {n c : Nat} {xs : List Int} (h : BS w a n c xs) : ∀ x ∈ xs, 0 ≤ x ∧ x < 256 := by
  intro x hx
  obtain ⟨i, hi⟩ := List.getElem?_of_mem hx
  exact (h.2.2.2 i x hi).1
theorem run_bytesOf {w : World} {a : Option Addr} {n c : Nat} {xs : List Int} (h : BS w a n c xs) : (Extern.Bytes.bytesOf (.slice a n c)).run Tryf.prog w = .ok ⟨(Lib.bytesOf xs).toArray⟩ w := by
  cases a with
  | none =>
    have hx : xs = [] := by
      cases xs with
      | nil => rfl
      | cons x l =>
        obtain ⟨_, b, off, e, _⟩ := h.2.2.2 0 x rfl
        cases e
    subst hx
    rfl
  | some ad =>
    obtain ⟨b, off, sp⟩ := ad
    have hl := Lib.run_loadBytesX (P := Tryf.prog) w xs ⟨b, off, sp⟩ .empty (fun j x hj => by
      obtain ⟨_, b', off', e, _, hc⟩ := h.2.2.2 j x hj
      cases e
      have e : (⟨b, off, none⟩ : Addr).add j = ⟨b, off + j, none⟩ := by unfold Addr.add; split <;> simp_all
      rw [e]
      exact hc)
    rw [h.1] at hl
    have : (Extern.Bytes.bytesOf (.slice (some ⟨b, off, sp⟩) n c)) = Extern.Bytes.loadBytes ⟨b, off, sp⟩ n .empty := rfl
    rw [this, hl]
    simp [ByteArray.empty, ByteArray.emptyWithCapacity]
    rfl

theorem compare_entry (a a' : Option Addr) (n c n' c' : Nat) (xs ys : List Int) (w : World) (hS : BS w a n c xs) (hS' : BS w a' n' c' ys) :
    (callFunc 25 #[.slice a n c, .slice a' n' c']).run Tryf.prog w = .ok (.value (.int .i64 (Pl.lex xs ys))) w := by
  rw [run_callFunc_extern Tryf.func25 (by kernel_rfl) (by kernel_rfl) (by kernel_rfl) (e := Extern.BytealgCompare.compare) (by kernel_rfl)]
  have : (Extern.BytealgCompare.compare #[.slice a n c, .slice a' n' c']).run Tryf.prog w = .ok (.int .i64 (Pl.lex xs ys)) w := by
    change Sem.run Tryf.prog (do pure (goInt (Extern.BytealgCompare.cmp (← Extern.Bytes.bytesOf (.slice a n c)) (← Extern.Bytes.bytesOf (.slice a' n' c'))))) w = _
    simp only [Sem.run_bind, run_bytesOf hS, run_bytesOf hS', Result.andThen, Lib.cmp_eq]
    rw [lex_bytes xs ys (bs_bytes hS) (bs_bytes hS')]
    rfl
  rw [this]
  rfl

set_option maxHeartbeats 1000000 in
theorem compare_any (a a' : Option Addr) (n c n' c' : Nat) (xs ys : List Int) (w : World) (hS : BS w a n c xs) (hS' : BS w a' n' c' ys) :
    Calls Tryf.prog 20 #[.slice a n c, .slice a' n' c'] w fun e w' => e = .returned (.int .i64 (Pl.lex xs ys)) ∧ w' = w := by
  have hcall := compare_entry a a' n c n' c' xs ys w hS hS'
  clear hS hS'
  go_enter Tryf.func20, Tryf.ntmps20
  go_wp2
  go_ret
  exact ⟨rfl, rfl⟩

theorem bs_getD {w : World} {b off n c : Nat} {xs : List Int} (h : BS w (some ⟨b, off, none⟩) n c xs) : ∀ i, i < n → w.cell? ⟨b, off + i, none⟩ = some (.int .u8 (xs.getD i 0)) := by
  intro i hi
  obtain ⟨x, b', off', hx, _, e, _, hc⟩ := bs_at h i hi
  cases e
  rw [hc, List.getD, hx]
  rfl
theorem strOfNums_inj : ∀ (xs ys : List Int), (∀ x ∈ xs, 0 ≤ x ∧ x < 256) → (∀ x ∈ ys, 0 ≤ x ∧ x < 256) → ((strOfNums xs).toList == (strOfNums ys).toList) = (xs == ys) := by
  intro xs ys hx hy
  cases h : xs == ys with
  | true =>
    have := eq_of_beq h
    subst this
    simp
  | false =>
    cases h2 : (strOfNums xs).toList == (strOfNums ys).toList with
    | false => rfl
    | true =>
      have e := eq_of_beq h2
      simp only [Lib.strOfNums_toList, Lib.bytesOf] at e
      have : ∀ (l m : List Int), (∀ x ∈ l, 0 ≤ x ∧ x < 256) → (∀ x ∈ m, 0 ≤ x ∧ x < 256) → (l.map fun n => UInt8.ofNat n.toNat) = (m.map fun n => UInt8.ofNat n.toNat) → l = m := by
        intro l
        induction l with
        | nil => intro m _ _ h; cases m with
          | nil => rfl
          | cons y m => simp at h
        | cons x l ih => intro m h1 h2 h; cases m with
          | nil => simp at h
          | cons y m =>
            simp only [List.map_cons, List.cons.injEq] at h
            have a1 := h1 x (by simp)
            have a2 := h2 y (by simp)
            have hn := congrArg UInt8.toNat h.1
            simp at hn
            have : x = y := by omega
            rw [this, ih m (fun z hz => h1 z (by simp [hz])) (fun z hz => h2 z (by simp [hz])) h.2]
      rw [this xs ys hx hy e] at h
      simp at h

set_option maxHeartbeats 1000000 in
theorem equal_any (b off n c b' off' n' c' : Nat) (xs ys : List Int) (w : World) (hS : BS w (some ⟨b, off, none⟩) n c xs) (hS' : BS w (some ⟨b', off', none⟩) n' c' ys) :
    Calls Tryf.prog 23 #[.slice (some ⟨b, off, none⟩) n c, .slice (some ⟨b', off', none⟩) n' c'] w fun e w' => e = .returned (.bool (xs == ys)) ∧ w' = w := by
  have g1 := run_convert_bytes_arg (P := Tryf.prog) w 30 5 Tryf.underlying30 Tryf.underlying5 b off n c xs hS.1 (bs_getD hS) 9 Tryf.underlying9
  have g2 := run_convert_bytes_arg (P := Tryf.prog) w 30 5 Tryf.underlying30 Tryf.underlying5 b' off' n' c' ys hS'.1 (bs_getD hS') 9 Tryf.underlying9
  have e := strOfNums_inj xs ys (bs_bytes hS) (bs_bytes hS')
  rw [← e]
  clear hS hS' e
  go_enter Tryf.func23, Tryf.ntmps23
  go_wp2
  go_ret
  exact ⟨rfl, rfl⟩

/-- the head of a name -/
theorem bs_take {w : World} {a : Option Addr} {n c m : Nat} {xs : List Int} (h : BS w a n c xs) (hm : m ≤ n) : BS w a m c (xs.take m) := by
  refine ⟨by have := h.1; simp; omega, by have := h.2.1; omega, h.2.2.1, fun i x hx => ?_⟩
  have hi : i < m := by
    have := (List.getElem?_eq_some_iff.1 hx).1
    simp at this
    omega
  rw [List.getElem?_take_of_lt hi] at hx
  exact h.2.2.2 i x hx
end Go.Proofs.Qxb6616724aFmt
