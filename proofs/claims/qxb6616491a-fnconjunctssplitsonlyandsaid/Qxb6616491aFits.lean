import Derived.Test.Qxb6616491aBuild
import Derived.Deep.DeepMust
namespace Go.Proofs.Qxb6616491a
open Go.RowKit Go.Deep

theorem Try.info34 : ∃ i, Try.prog.info? 34 = some i ∧ i.zero = some (.pointer none) ∧ i.size = 1 ∧ i.bytes = 8 := info_parts (by kernel_rfl)

def tot (ts : List (BT ByteArray)) : Nat := (ts.map sz).sum
theorem tot_snoc (ts : List (BT ByteArray)) (T : BT ByteArray) : tot (ts ++ [T]) = tot ts + sz T := by simp [tot]

/-- the stack of trees that are still to be counted -/
def Stk (w w' : World) (g cap : Nat) (ts : List (BT ByteArray)) : Prop :=
  w'.ownsRow w.heap.size 34 1 (.slice (some ⟨g, 0, none⟩) ts.length cap) ts.length (ts.map BT.ptr) ∧ (∀ T ∈ ts, tin w T ∧ ∃ b o op l r, T = .node b o op l r) ∧ Below w.heap.size w w' ∧ w.heap.size ≤ g ∧ g < w'.heap.size

/-- what 'treeFits' leaves -/
def Fits (w : World) (N0 : Nat) (T : BT ByteArray) (e : Ending) (w' : World) : Prop :=
  ∃ (N : Nat) (B : Int) (ok : Bool), e = .returned (.tuple #[.int .i64 N, .int .i64 B, .bool ok]) ∧ (ok = true → N = N0 + sz T ∧ N ≤ 4096) ∧ Below w.heap.size w w'

theorem fits_nil (N0 : Nat) (B0 : Int) (w : World) (h1 : N0 ≤ 4096) : Calls Try.prog 10 #[.pointer none, .int .i64 N0, .int .i64 B0] w (Fits w N0 .nil) := by
  go_enter Try.func10, Try.ntmps10
  go_wp2_with fail
  go_ret3
  exact ⟨N0, B0, true, rfl, fun _ => ⟨rfl, h1⟩, Below.refl _ _⟩

theorem stk_start (w : World) (b o : Nat) (op : ByteArray) (l r : BT ByteArray) (h : tin w (.node b o op l r)) : Stk w (w.alloc (.cells #[.pointer (some ⟨b, o, none⟩)] 34)) w.heap.size 1 [.node b o op l r] :=
  ⟨World.ownsRow_lit w #[.pointer (some ⟨b, o, none⟩)] 1 (Nat.le_refl _) (by unfold maxLen; omega) rfl, by
    intro T hT
    simp at hT
    subst hT
    exact ⟨h, _, _, _, _, _, rfl⟩, below_new w _, Nat.le_refl _, by simp⟩

theorem own_cap {w : World} {base e g n cap : Nat} {xs : List Value} (h : w.ownsRow base e 1 (.slice (some ⟨g, 0, none⟩) n cap) n xs) : n ≤ cap := by
  rcases h.2 with ⟨h2, _⟩ | ⟨g', cap', cur, hv, _, _, hn, _⟩
  · cases h2
  · cases hv; exact hn

/-- the stack's last element -/
theorem stk_last {w w' : World} {g cap : Nat} {ts : List (BT ByteArray)} {b o : Nat} {op : ByteArray} {l r : BT ByteArray} (h : Stk w w' g cap (ts ++ [.node b o op l r])) :
    w'.cell? ⟨g, ts.length, none⟩ = some (.pointer (some ⟨b, o, none⟩)) ∧ tin w' (.node b o op l r) ∧ w'.ownsRow w.heap.size 34 1 (.slice (some ⟨g, 0, none⟩) ts.length cap) ts.length (ts.map BT.ptr) := by
  obtain ⟨h1, h2, h3, h4, h5⟩ := h
  refine ⟨?_, tin_below h3 (Nat.le_refl _) _ (h2 _ (by simp)).1, ownsRow_pop (last := [(BT.node b o op l r).ptr]) (by simp) (by simpa only [List.length_append, List.length_singleton, List.map_append, List.map_cons, List.map_nil] using h1)⟩
  have := h1.cells rfl ts.length (.pointer (some ⟨b, o, none⟩)) (by simp [BT.ptr])
  have e : (⟨g, 0, none⟩ : Addr).add ts.length = ⟨g, ts.length, none⟩ := by unfold Addr.add; split <;> simp_all
  rwa [e] at this

theorem stk_own {w w2 : World} {g2 cap2 : Nat} {ts : List (BT ByteArray)} {T : BT ByteArray} (h : Stk w w2 g2 cap2 (ts ++ [T])) : w2.ownsRow w.heap.size 34 1 (.slice (some ⟨g2, 0, none⟩) (ts.length + 1) cap2) (ts.length + 1) ((ts ++ [T]).map BT.ptr) := by
  have := h.1
  rwa [List.length_append, List.length_singleton] at this
theorem stk_size {w w2 : World} {g2 cap2 : Nat} {ts : List (BT ByteArray)} (h : Stk w w2 g2 cap2 ts) (o : Obj) : w.heap.size ≤ (w2.alloc o).heap.size := by
  have := h.2.2.1.size
  simp; omega
/-- one tree more on the stack -/
theorem stk_push {w wr w2 : World} {g cap n : Nat} {ts : List (BT ByteArray)} {T : BT ByteArray} {o : Obj} {g2 cap2 : Nat} (hts : ∀ T ∈ ts, tin w T ∧ ∃ b o op l r, T = .node b o op l r) (hb : Below w.heap.size w wr) (hg : w.heap.size ≤ g) (hT : tin w T ∧ ∃ b o op l r, T = .node b o op l r)
    (own2 : w2.ownsRow w.heap.size 34 1 (.slice (some ⟨g2, 0, none⟩) (ts.length + 1) cap2) (ts.length + 1) (ts.map BT.ptr ++ [T.ptr])) (grow2 : (wr.alloc o).grownBy w2 (Value.ownBlock (.slice (some ⟨g, 0, none⟩) n cap))) (lt2 : g2 < w2.heap.size) : Stk w w2 g2 cap2 (ts ++ [T]) := by
  refine ⟨by simpa only [List.length_append, List.length_singleton, List.map_append, List.map_cons, List.map_nil] using own2, ?_, (hb.alloc hb.size o).grown grow2 (by have := hb.size; simp; omega) ?_, (own2.lt g2 rfl).1, lt2⟩
  · intro T' hT'
    rcases List.mem_append.1 hT' with h | h
    · exact hts T' h
    · simp at h; subst h; exact hT
  · intro k hk
    simp [Value.ownBlock] at hk
    omega

set_option maxRecDepth 100000 in
set_option maxHeartbeats 4000000 in
theorem fits_node (b0 o0 N0 : Nat) (B0 : Int) (op0 : ByteArray) (l0 r0 : BT ByteArray) (w : World) (h1 : N0 ≤ 4096) (hT : tin w (.node b0 o0 op0 l0 r0)) : Calls Try.prog 10 #[.pointer (some ⟨b0, o0, none⟩), .int .i64 N0, .int .i64 B0] w (Fits w N0 (.node b0 o0 op0 l0 r0)) := by
  obtain ⟨i34, ei, ez, es, eb⟩ := Try.info34
  have HT : Hid (tin w (.node b0 o0 op0 l0 r0)) := hT
  clear hT
  go_enter Try.func10, Try.ntmps10
  go_wp2_with fail
  go_loopw [1, 2, 9] (fun nd bt st w' => ∃ (ts : List (BT ByteArray)) (N : Nat) (B : Int) (g cap : Nat), nd = .int .i64 N ∧ bt = .int .i64 B ∧ st = .slice (some ⟨g, 0, none⟩) ts.length cap ∧ Stk w w' g cap ts ∧ N + tot ts = N0 + sz (.node b0 o0 op0 l0 r0) ∧ N ≤ 4096 ∧ ts.length ≤ N + 1) (fun nd _ _ _ => 4096 - (intOf nd).toNat)
  case atStart => exact ⟨[.node b0 o0 op0 l0 r0], N0, B0, w.heap.size, 1, rfl, rfl, rfl, stk_start w b0 o0 op0 l0 r0 HT.out, by simp [tot], h1, by simp⟩
  case round =>
    obtain ⟨ts, N, B, g, cap, rfl, rfl, rfl, hS, hN, hN4, hTN⟩ := hrel
    have HN : Hid (N + tot ts = N0 + sz (.node b0 o0 op0 l0 r0)) := hN
    clear hN
    rcases List.eq_nil_or_concat ts with rfl | ⟨ts', x, rfl⟩
    · have HS : Hid (Stk w wr g cap []) := hS
      clear hS
      simp only [List.length_nil]
      go_wp2_with fail
      go_ret3
      exact ⟨N, B, true, rfl, fun _ => ⟨by have := HN.out; simp [tot] at this; omega, hN4⟩, HS.out.2.2.1⟩
    · rw [List.concat_eq_append] at *
      obtain ⟨b, o, op, l, r, rfl⟩ := (hS.2.1 x (by simp)).2
      obtain ⟨k0, kt, own0⟩ := stk_last hS
      obtain ⟨k1, k2, k3, k4, k5, k6, k7⟩ := kt
      unfold maxLen at k5
      have HS : Hid (Stk w wr g cap (ts' ++ [.node b o op l r])) := hS
      have HX : Hid (tin w (.node b o op l r)) := (hS.2.1 (.node b o op l r) (by simp)).1
      have HKW : Hid (tin w l ∧ tin w r) := by have h := HX.out; exact h.2.2.2.2.2
      have HTS : Hid (∀ T ∈ ts', tin w T ∧ ∃ b o op l r, T = .node b o op l r) := fun T hT => hS.2.1 T (by simp [hT])
      have HO : Hid (wr.ownsRow w.heap.size 34 1 (.slice (some ⟨g, 0, none⟩) ts'.length cap) ts'.length (ts'.map BT.ptr)) := own0
      clear hS k6 k7 own0
      rw [List.length_append, List.length_singleton]
      have hlen : ts'.length ≤ N := by rw [List.length_append, List.length_singleton] at hTN; omega
      clear hTN
      have hcap : (ts'.length : Int) ≤ (cap : Int) := by have := own_cap HO.out; omega
      have hcap' : ts'.length ≤ cap := own_cap HO.out
      have hbz : Hid (∀ o, w.heap.size ≤ (wr.alloc o).heap.size) := by intro o; have := HS.out.2.2.1.size; simp; omega
      have hlen0 : (0 : Int) ≤ (ts'.length : Int) := by omega
      cases l with
      | nil =>
        cases r with
        | nil =>
          simp only [BT.ptr] at k2 k3
          by_cases hn : (4096 : Int) < (N : Int) + 1
          · go_wp2_with fail
            go_ret3
            exact ⟨N + 1, B, false, by simp, fun h => (by cases h), HS.out.2.2.1⟩
          · by_cases hm : (1048576 : Int) < wrap64 (B + (op.size : Int))
            · go_wp2_with fail
              go_ret3
              exact ⟨N + 1, wrap64 (B + op.size), false, by simp, fun h => (by cases h), HS.out.2.2.1⟩
            · go_wp2_with fail
              exact ⟨⟨ts', N + 1, _, g, cap, by go_num, rfl, rfl, ⟨HO.out, fun T hT => HS.out.2.1 T (by simp [hT]), HS.out.2.2⟩, by have := HN.out; rw [tot_snoc] at this; simp only [sz] at *; omega, by omega, by omega⟩, by simp [intOf]; omega⟩
        | node br orr opr lr rr =>
          simp only [BT.ptr] at k2 k3
          by_cases hn : (4096 : Int) < (N : Int) + 1
          · go_wp2_with fail
            go_ret3
            exact ⟨N + 1, B, false, by simp, fun h => (by cases h), HS.out.2.2.1⟩
          · by_cases hm : (1048576 : Int) < wrap64 (B + (op.size : Int))
            · go_wp2_with fail
              go_ret3
              exact ⟨N + 1, wrap64 (B + op.size), false, by simp, fun h => (by cases h), HS.out.2.2.1⟩
            · go_wp2_with (first
                | (at_builtin; go_must (refine wpList_append_lies _ rfl (.tmp 65) (.tmp 70) 43 rfl w.heap.size 34 i34 (.pointer none) 1 8 Try.underlying43 ei ez es eb rfl (by decide) (.slice (some ⟨g, 0, none⟩) ts'.length cap) ts'.length (ts'.map BT.ptr) rfl (HO.out.alloc _) ⟨wr.heap.size, 0, none⟩ 1 1 [.pointer (some ⟨br, orr, none⟩)] rfl rfl (cell_one_new _ _ _) (by simp [Value.oneCell']) (by decide) (by unfold maxLen; omega) (by omega) (hbz.out _) _ rfl ?_); intro g2 cap2 w2 own2 grow2 at2 lt2))
              exact ⟨⟨ts' ++ [.node br orr opr lr rr], N + 1, _, g2, cap2, by go_num, rfl, by rw [List.length_append, List.length_singleton], stk_push (T := .node br orr opr lr rr) HTS.out HS.out.2.2.1 HS.out.2.2.2.1 ⟨HKW.out.2, _, _, _, _, _, rfl⟩ own2 grow2 lt2, by have := HN.out; rw [tot_snoc] at this ⊢; simp only [sz] at *; omega, by omega, by rw [List.length_append, List.length_singleton]; omega⟩, by simp [intOf]; omega⟩
      | node bl ol opl ll rl =>
        cases r with
        | nil =>
          simp only [BT.ptr] at k2 k3
          by_cases hn : (4096 : Int) < (N : Int) + 1
          · go_wp2_with fail
            go_ret3
            exact ⟨N + 1, B, false, by simp, fun h => (by cases h), HS.out.2.2.1⟩
          · by_cases hm : (1048576 : Int) < wrap64 (B + (op.size : Int))
            · go_wp2_with fail
              go_ret3
              exact ⟨N + 1, wrap64 (B + op.size), false, by simp, fun h => (by cases h), HS.out.2.2.1⟩
            · go_wp2_with (first
                | (at_builtin; go_must (refine wpList_append_lies _ rfl (.tmp 53) (.tmp 58) 43 rfl w.heap.size 34 i34 (.pointer none) 1 8 Try.underlying43 ei ez es eb rfl (by decide) (.slice (some ⟨g, 0, none⟩) ts'.length cap) ts'.length (ts'.map BT.ptr) rfl (HO.out.alloc _) ⟨wr.heap.size, 0, none⟩ 1 1 [.pointer (some ⟨bl, ol, none⟩)] rfl rfl (cell_one_new _ _ _) (by simp [Value.oneCell']) (by decide) (by unfold maxLen; omega) (by omega) (hbz.out _) _ rfl ?_); intro g2 cap2 w2 own2 grow2 at2 lt2; have HP : Hid (Stk w w2 g2 cap2 (ts' ++ [.node bl ol opl ll rl])) := stk_push (T := .node bl ol opl ll rl) HTS.out HS.out.2.2.1 HS.out.2.2.2.1 ⟨HKW.out.1, _, _, _, _, _, rfl⟩ own2 grow2 lt2; have q3 : w2.cell? ⟨b, o + 2, none⟩ = some (.pointer none) := (tin_below HP.out.2.2.1 (Nat.le_refl _) _ HX.out).2.2.1; clear own2 grow2 at2 lt2))
              exact ⟨⟨ts' ++ [.node bl ol opl ll rl], N + 1, _, g2, cap2, by go_num, rfl, by rw [List.length_append, List.length_singleton], HP.out, by have := HN.out; rw [tot_snoc] at this ⊢; simp only [sz] at *; omega, by omega, by rw [List.length_append, List.length_singleton]; omega⟩, by simp [intOf]; omega⟩
        | node br orr opr lr rr =>
          simp only [BT.ptr] at k2 k3
          by_cases hn : (4096 : Int) < (N : Int) + 1
          · go_wp2_with fail
            go_ret3
            exact ⟨N + 1, B, false, by simp, fun h => (by cases h), HS.out.2.2.1⟩
          · by_cases hm : (1048576 : Int) < wrap64 (B + (op.size : Int))
            · go_wp2_with fail
              go_ret3
              exact ⟨N + 1, wrap64 (B + op.size), false, by simp, fun h => (by cases h), HS.out.2.2.1⟩
            · have tok1 : True := trivial
              go_wp2_with (first
                | (at_builtin; have _t := tok1; go_must (refine wpList_append_lies _ rfl (.tmp 53) (.tmp 58) 43 rfl w.heap.size 34 i34 (.pointer none) 1 8 Try.underlying43 ei ez es eb rfl (by decide) (.slice (some ⟨g, 0, none⟩) ts'.length cap) ts'.length (ts'.map BT.ptr) rfl (HO.out.alloc _) ⟨wr.heap.size, 0, none⟩ 1 1 [.pointer (some ⟨bl, ol, none⟩)] rfl rfl (cell_one_new _ _ _) (by simp [Value.oneCell']) (by decide) (by unfold maxLen; omega) (by omega) (hbz.out _) _ rfl ?_); intro g2 cap2 w2 own2 grow2 at2 lt2; have HP : Hid (Stk w w2 g2 cap2 (ts' ++ [.node bl ol opl ll rl])) := stk_push (T := .node bl ol opl ll rl) HTS.out HS.out.2.2.1 HS.out.2.2.2.1 ⟨HKW.out.1, _, _, _, _, _, rfl⟩ own2 grow2 lt2; have q3 : w2.cell? ⟨b, o + 2, none⟩ = some (.pointer (some ⟨br, orr, none⟩)) := (tin_below HP.out.2.2.1 (Nat.le_refl _) _ HX.out).2.2.1; clear own2 grow2 at2 lt2 tok1)
                | (at_builtin; go_must (refine wpList_append_lies _ rfl (.tmp 65) (.tmp 70) 43 rfl w.heap.size 34 i34 (.pointer none) 1 8 Try.underlying43 ei ez es eb rfl (by decide) (.slice (some ⟨g2, 0, none⟩) (ts'.length + 1) cap2) (ts'.length + 1) (List.map BT.ptr (ts' ++ [BT.node bl ol opl ll rl])) rfl ((stk_own HP.out).alloc _) ⟨w2.heap.size, 0, none⟩ 1 1 [.pointer (some ⟨br, orr, none⟩)] rfl rfl (cell_one_new _ _ _) (by simp [Value.oneCell']) (by decide) (by unfold maxLen; omega) (by omega) (stk_size HP.out _) _ rfl ?_); intro g3 cap3 w3 own3 grow3 at3 lt3; (have HP3 : Hid (Stk w w3 g3 cap3 (ts' ++ [.node bl ol opl ll rl] ++ [.node br orr opr lr rr])) := stk_push (T := .node br orr opr lr rr) HP.out.2.1 HP.out.2.2.1 HP.out.2.2.2.1 ⟨HKW.out.2, _, _, _, _, _, rfl⟩ (by rw [List.length_append, List.length_singleton]; exact own3) grow3 lt3); clear own3 grow3 at3 lt3))
              exact ⟨⟨ts' ++ [.node bl ol opl ll rl] ++ [.node br orr opr lr rr], N + 1, _, g3, cap3, by go_num, rfl, by simp only [List.length_append, List.length_singleton], HP3.out, by have := HN.out; rw [tot_snoc] at this ⊢; rw [tot_snoc]; simp only [sz] at *; omega, by omega, by simp only [List.length_append, List.length_singleton]; omega⟩, by simp [intOf]; omega⟩

theorem fits_any (T : BT ByteArray) (N0 : Nat) (B0 : Int) (w : World) (h1 : N0 ≤ 4096) (h : tin w T) : Calls Try.prog 10 #[T.ptr, .int .i64 N0, .int .i64 B0] w (Fits w N0 T) := by
  cases T with
  | nil => exact fits_nil N0 B0 w h1
  | node b o op l r => exact fits_node b o N0 B0 op l r w h1 h
end Go.Proofs.Qxb6616491a
