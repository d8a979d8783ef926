import Derived.Test.Qxb6616476aDivP
import Derived.Test.Qxb6616476aLen
import Derived.Lib.ItoaNum
import Derived.Deep.DeepCutAuto
import Derived.Deep.CutBlock
import Derived.Laws.Bits64b
import Derived.Deep.QuietTactic
import Derived.BigQuiet
namespace Go.Proofs.Qxb6616476a
open Go.RowKit Go.Lib

/-- how far a word must be shifted till its top bit is set -/
theorem lead {y : Nat} (h0 : 0 < y) (h1 : y < 18446744073709551616) : ∃ s : Nat, s < 64 ∧ 64 - (Lib.bitLen y : Int) = s ∧ 9223372036854775808 ≤ y * 2 ^ s ∧ y * 2 ^ s < 18446744073709551616 := by
  obtain ⟨a, b, c⟩ := bitLenAux_bounds 64 y (by simpa using h1) (by omega)
  have hl : Lib.bitLen y ≤ 64 := Lib.bitLen_le y 64 (by omega) (by simpa using h1)
  have e : Lib.bitLen y = Lib.bitLenAux 64 y := rfl
  rw [e] at hl ⊢
  generalize bitLenAux 64 y = L at *
  have e1 : 2 ^ (L - 1) * 2 ^ (64 - L) = 9223372036854775808 := by
    rw [← Nat.pow_add, show L - 1 + (64 - L) = 63 by omega]
  have e2 : 2 ^ L * 2 ^ (64 - L) = 18446744073709551616 := by
    rw [← Nat.pow_add, show L + (64 - L) = 64 by omega]
  have p : 0 < 2 ^ (64 - L) := Nat.pow_pos (by omega)
  refine ⟨64 - L, by omega, by omega, ?_, ?_⟩
  · rw [← e1]
    exact Nat.mul_le_mul_right _ b
  · rw [← e2]
    exact Nat.mul_lt_mul_of_pos_right c p
theorem wrapN (a : Nat) (ha : a < 18446744073709551616) : IntKind.u64.wrap (a : Int) = (a : Int) := by rw [IntKind.wrap_u64]; omega
theorem cast_pow (a s : Nat) : (a : Int) * 2 ^ s = ((a * 2 ^ s : Nat) : Int) := by
  rw [Int.natCast_mul, Int.natCast_pow]
  rfl
/-- the shifted number, its words -/
theorem words {hi lo y s : Nat} (hs : s < 64) (hl : lo < 18446744073709551616) (hy : hi < y) (hY : y * 2 ^ s < 18446744073709551616) :
    ∃ u v : Nat, u < y * 2 ^ s ∧ v < 18446744073709551616 ∧ (hi * 18446744073709551616 + lo) * 2 ^ s = u * 18446744073709551616 + v ∧ IntKind.u64.wrap ((lo : Int) * 2 ^ s) = (v : Int) ∧
      bits .or .u64 (IntKind.u64.wrap ((hi : Int) * 2 ^ s)) ((lo : Int) / 2 ^ (64 - s)) = (u : Int) := by
  have e2 : 2 ^ s * 2 ^ (64 - s) = 18446744073709551616 := by
    rw [← Nat.pow_add, show s + (64 - s) = 64 by omega]
  have p : 0 < 2 ^ s := Nat.pow_pos (by omega)
  have p2 : 0 < 2 ^ (64 - s) := Nat.pow_pos (by omega)
  have hq : lo / 2 ^ (64 - s) < 2 ^ s := Nat.div_lt_of_lt_mul (by rw [Nat.mul_comm, e2]; exact hl)
  have hm : lo % 2 ^ (64 - s) < 2 ^ (64 - s) := Nat.mod_lt _ p2
  have hsum : (hi + 1) * 2 ^ s ≤ y * 2 ^ s := Nat.mul_le_mul_right _ hy
  rw [Nat.add_mul, Nat.one_mul] at hsum
  have hv : lo * 2 ^ s = lo / 2 ^ (64 - s) * 18446744073709551616 + lo % 2 ^ (64 - s) * 2 ^ s := by
    have := Nat.div_add_mod lo (2 ^ (64 - s))
    calc lo * 2 ^ s = (2 ^ (64 - s) * (lo / 2 ^ (64 - s)) + lo % 2 ^ (64 - s)) * 2 ^ s := by rw [this]
      _ = 2 ^ (64 - s) * (lo / 2 ^ (64 - s)) * 2 ^ s + lo % 2 ^ (64 - s) * 2 ^ s := Nat.add_mul _ _ _
      _ = lo / 2 ^ (64 - s) * (2 ^ s * 2 ^ (64 - s)) + lo % 2 ^ (64 - s) * 2 ^ s := by
        congr 1
        rw [Nat.mul_comm (2 ^ (64 - s)), Nat.mul_assoc, Nat.mul_comm (2 ^ (64 - s))]
      _ = _ := by rw [e2]
  have hv2 : lo % 2 ^ (64 - s) * 2 ^ s < 18446744073709551616 := by
    rw [← e2, Nat.mul_comm (2 ^ s)]
    exact Nat.mul_lt_mul_of_pos_right hm p
  refine ⟨hi * 2 ^ s + lo / 2 ^ (64 - s), lo % 2 ^ (64 - s) * 2 ^ s, by omega, hv2, ?_, ?_, ?_⟩
  · rw [Nat.add_mul, hv, Nat.mul_right_comm]
    omega
  · rw [cast_pow, IntKind.wrap_u64]
    omega
  · rw [cast_pow, wrapN _ (by omega)]
    have e3 : (lo : Int) / 2 ^ (64 - s) = ((lo / 2 ^ (64 - s) : Nat) : Int) := by
      rw [Int.natCast_ediv, Int.natCast_pow]
      rfl
    rw [e3, bits_or_u64_nat _ _ (by omega) (by omega)]
    congr 1
    rw [Nat.mul_comm hi]
    exact (Nat.two_pow_add_eq_or_of_lt hq hi).symm
theorem maskN (a : Nat) (ha : a < 18446744073709551616) : bits .and .u64 (a : Int) 4294967295 = ((a % 4294967296 : Nat) : Int) := by
  have h := bits_and_u64_nat a 4294967295 ha (by omega)
  have e : a &&& 4294967295 = a % 4294967296 := Nat.and_two_pow_sub_one_eq_mod a 32
  rw [e] at h
  exact h

set_option maxRecDepth 100000 in
set_option maxHeartbeats 8000000 in
theorem div64N (hi lo y : Nat) (h0 : 0 < hi) (hl : lo < 18446744073709551616) (hy : hi < y) (hy' : y < 18446744073709551616) (w : World) :
    Calls Try.prog 41 #[.int .u64 hi, .int .u64 lo, .int .u64 y] w fun e w' => e = .returned (.tuple #[.int .u64 (((hi * 18446744073709551616 + lo) / y : Nat) : Int), .int .u64 (((hi * 18446744073709551616 + lo) % y : Nat) : Int)]) ∧ w' = w := by
  obtain ⟨s, hs, es, hY1, hY2⟩ := lead (y := y) (by omega) hy'
  have z1 : ¬ (y : Int) = 0 := by omega
  have z2 : ¬ (y : Int) ≤ hi := by omega
  have z3 : ¬ (hi : Int) = 0 := by omega
  obtain ⟨u, v, hu, hv, hX, ev, eu⟩ := words hs hl hy hY2
  have eY : IntKind.u64.wrap ((y : Int) * 2 ^ s) = ((y * 2 ^ s : Nat) : Int) := by rw [cast_pow, wrapN _ hY2]
  have p : 0 < 2 ^ s := Nat.pow_pos (by omega)
  have HQ : Hid (((hi * 18446744073709551616 + lo) / y = (u * 18446744073709551616 + v) / (y * 2 ^ s)) ∧ (hi * 18446744073709551616 + lo) % y * 2 ^ s = (u * 18446744073709551616 + v) % (y * 2 ^ s)) := by
    rw [← hX]
    exact ⟨(Nat.mul_div_mul_right _ _ p).symm, (Nat.mul_mod_mul_right _ _ _).symm⟩
  clear hX
  obtain ⟨Y, hYd⟩ : ∃ Y, Y = y * 2 ^ s := ⟨_, rfl⟩
  rw [← hYd] at hY1 hY2 hu eY HQ
  obtain ⟨y1, hy1⟩ : ∃ y1, y1 = Y / 4294967296 := ⟨_, rfl⟩
  obtain ⟨y0, hy0⟩ : ∃ y0, y0 = Y % 4294967296 := ⟨_, rfl⟩
  obtain ⟨d1, hd1⟩ : ∃ d1, d1 = v / 4294967296 := ⟨_, rfl⟩
  obtain ⟨d0, hd0⟩ : ∃ d0, d0 = v % 4294967296 := ⟨_, rfl⟩
  have k1 : (Y : Int) / 4294967296 = (y1 : Int) := by omega
  have k2 : bits .and .u64 (Y : Int) 4294967295 = (y0 : Int) := by rw [maskN Y hY2, hy0]
  have k3 : (v : Int) / 4294967296 = (d1 : Int) := by omega
  have k4 : bits .and .u64 (v : Int) 4294967295 = (d0 : Int) := by rw [maskN v hv, hd0]
  have l1 : 2147483648 ≤ y1 := by omega
  have l2 : y1 < 4294967296 := by omega
  have l3 : y0 < 4294967296 := by omega
  have l4 : d1 < 4294967296 := by omega
  have l5 : d0 < 4294967296 := by omega
  have eY2 : Y = y1 * 4294967296 + y0 := by omega
  have ev2 : v = d1 * 4294967296 + d0 := by omega
  have k5 : ¬ (y1 : Int) = 0 := by omega
  have k6 : IntKind.u64.wrap ((u : Int).tdiv (y1 : Int)) = ((u / y1 : Nat) : Int) := by
    have e : (u : Int).tdiv (y1 : Int) = ((u / y1 : Nat) : Int) := rfl
    have : u / y1 ≤ u := Nat.div_le_self _ _
    rw [e, wrapN _ (by omega)]
  have k6' : IntKind.u64.wrap ((u : Int) / (y1 : Int)) = ((u / y1 : Nat) : Int) := by
    have : u / y1 ≤ u := Nat.div_le_self _ _
    rw [← Int.natCast_ediv, wrapN _ (by omega)]
  have k7 : IntKind.u64.wrap ((u : Int) - IntKind.u64.wrap (((u / y1 : Nat) : Int) * (y1 : Int))) = ((u % y1 : Nat) : Int) := by
    have h1 := Nat.div_add_mod u y1
    have h2 : (((u / y1 : Nat) : Int) * (y1 : Int)) = ((y1 * (u / y1) : Nat) : Int) := by rw [Nat.mul_comm, Int.natCast_mul]
    have h3 : y1 * (u / y1) ≤ u := Nat.mul_div_le _ _
    rw [h2, wrapN _ (by omega), IntKind.wrap_u64]
    omega
  have HS : Hid (Pd.Inv y1 y0 u d1 (u / y1) (u % y1)) := Pd.start l1 l2 l3 (by omega) l4
  have s1 : IntKind.u64.wrap (s : Int) = s := by rw [IntKind.wrap_u64]; omega
  have HE : Hid (Y = y1 * 4294967296 + y0 ∧ v = d1 * 4294967296 + d0 ∧ Y = y * 2 ^ s) := ⟨eY2, ev2, hYd⟩
  clear hy1 hy0 hd1 hd0 eY2 ev2 hYd
  generalize hqa : u / y1 = qa at *
  generalize hra : u % y1 = ra at *
  clear hqa hra
  go_enter Try.func41, Try.ntmps41
  go_wp2_with fail
  refine (Try.bits_LeadingZeros64 y w (by omega) (by omega)).mono ?_
  rintro e wv ⟨rfl, hv'⟩
  obtain rfl := hv'.symm
  clear hv'
  rw [Int.toNat_natCast, es]
  go_upto_block 0 with fail
  go_cut [15, 16] (fun v15 v16 wx => v15 = .int .u64 (((u * 4294967296 + d1) / (y1 * 4294967296 + y0) : Nat) : Int) ∧ (∃ r : Nat, v16 = .int .u64 r) ∧ w = wx)
  case first =>
    go_wp2_with fail
    go_loopw [15, 16] (fun v15 v16 wx => ∃ q r : Nat, v15 = .int .u64 q ∧ v16 = .int .u64 r ∧ Pd.Inv y1 y0 u d1 q r ∧ w = wx) (fun v15 _ _ => (RowKit.intOf v15).toNat)
    case atStart => exact ⟨qa, ra, rfl, rfl, HS.out, rfl⟩
    case round =>
      obtain ⟨q, r, rfl, rfl, hI, rfl⟩ := hrel
      have hq2 : q ≤ 4294967297 := hI.2.2.1
      have hr2 : r < 4294967296 := hI.2.2.2
      have HI : Hid (Pd.Inv y1 y0 u d1 q r) := hI
      clear hI
      have w1 : IntKind.u64.wrap (4294967296 * (r : Int)) = 4294967296 * (r : Int) := by rw [IntKind.wrap_u64]; omega
      have w2 : IntKind.u64.wrap (4294967296 * (r : Int) + (d1 : Int)) = 4294967296 * (r : Int) + (d1 : Int) := by rw [IntKind.wrap_u64]; omega
      obtain ⟨r2, hr9⟩ : ∃ r2, r2 = r + y1 := ⟨_, rfl⟩
      have w3 : IntKind.u64.wrap ((r : Int) + (y1 : Int)) = (r2 : Int) := by rw [IntKind.wrap_u64]; omega
      have HR9 : Hid (r2 = r + y1) := hr9
      have hr10 : 4294967296 ≤ r + y1 ↔ (4294967296 : Int) ≤ (r2 : Int) := by omega
      have HR10 : Hid (4294967296 ≤ r + y1 ↔ (4294967296 : Int) ≤ (r2 : Int)) := hr10
      clear hr9 hr10
      by_cases hB : 4294967296 ≤ q
      · have hB' : (4294967296 : Int) ≤ (q : Int) := by omega
        obtain ⟨k, hk⟩ : ∃ k, k = q - 1 := ⟨_, rfl⟩
        have HBB : Hid (4294967296 ≤ q) := hB
        have w4 : IntKind.u64.wrap ((q : Int) - 1) = (k : Int) := by rw [IntKind.wrap_u64]; omega
        have HKK : Hid (k = q - 1 ∧ 1 ≤ q) := ⟨hk, by omega⟩
        clear hk hB hq2
        by_cases hr : 4294967296 ≤ r + y1
        · have hr' : (4294967296 : Int) ≤ (r2 : Int) := HR10.out.1 hr
          have HRR : Hid (4294967296 ≤ r + y1) := hr
          clear hr
          go_wp2_with fail
          go_meet
          case rel =>
            have := Pd.leave HI.out (by omega) l3 (by have := HE.out.1; omega) l4 (.inl HBB.out) HRR.out
            exact ⟨by rw [← this, HKK.out.1], ⟨_, rfl⟩, rfl⟩
        · have hr' : ¬ (4294967296 : Int) ≤ (r2 : Int) := fun h => hr (HR10.out.2 h)
          have HRR : Hid (¬ 4294967296 ≤ r + y1) := hr
          clear hr
          go_wp2_with fail
          go_roundw
          case rel => exact ⟨k, r2, rfl, rfl, by rw [HKK.out.1, HR9.out]; exact Pd.again HI.out (by have := HE.out.1; omega) l4 (.inl HBB.out) (by have := HRR.out; omega), by first | rfl | trivial⟩
          case measure => have := HKK.out; simp [RowKit.intOf]; omega
      · have hB' : ¬ (4294967296 : Int) ≤ (q : Int) := by omega
        have hm : q * y0 < 18446744073709551616 := Nat.lt_of_le_of_lt (Nat.mul_le_mul (show q ≤ 4294967295 by omega) (show y0 ≤ 4294967295 by omega)) (by decide)
        have w6 : IntKind.u64.wrap ((q : Int) * (y0 : Int)) = ((q * y0 : Nat) : Int) := by rw [← Int.natCast_mul, wrapN _ hm]
        by_cases hT : 4294967296 * r + d1 < q * y0
        · have hT' : 4294967296 * (r : Int) + (d1 : Int) < ((q * y0 : Nat) : Int) := by omega
          have hq1 : 1 ≤ q := (Pd.down HI.out (by have := HE.out.1; omega) l4 (.inr hT)).1
          obtain ⟨k, hk⟩ : ∃ k, k = q - 1 := ⟨_, rfl⟩
          have w4 : IntKind.u64.wrap ((q : Int) - 1) = (k : Int) := by rw [IntKind.wrap_u64]; omega
          have HKK : Hid (k = q - 1 ∧ 1 ≤ q) := ⟨hk, by omega⟩
          clear hk hq1
          by_cases hr : 4294967296 ≤ r + y1
          · have hr' : (4294967296 : Int) ≤ (r2 : Int) := HR10.out.1 hr
            have HRR : Hid (4294967296 ≤ r + y1) := hr
            clear hr
            go_wp2_with fail
            go_meet
            case rel =>
              have := Pd.leave HI.out (by omega) l3 (by have := HE.out.1; omega) l4 (.inr hT) HRR.out
              exact ⟨by rw [← this, HKK.out.1], ⟨_, rfl⟩, rfl⟩
          · have hr' : ¬ (4294967296 : Int) ≤ (r2 : Int) := fun h => hr (HR10.out.2 h)
            have HRR : Hid (¬ 4294967296 ≤ r + y1) := hr
            clear hr
            go_wp2_with fail
            go_roundw
            case rel => exact ⟨k, r2, rfl, rfl, by rw [HKK.out.1, HR9.out]; exact Pd.again HI.out (by have := HE.out.1; omega) l4 (.inr hT) (by have := HRR.out; omega), by first | rfl | trivial⟩
            case measure => have := HKK.out; simp [RowKit.intOf]; omega
        · have hT' : ¬ 4294967296 * (r : Int) + (d1 : Int) < ((q * y0 : Nat) : Int) := by omega
          go_wp2_with fail
          go_meet
          case rel =>
            have := Pd.stop HI.out (by omega) (by omega)
            exact ⟨by rw [← this], ⟨_, rfl⟩, rfl⟩
  case rest =>
    obtain ⟨rfl, ⟨r9, rfl⟩, rfl⟩ := hcut
    have hYe : Y = y1 * 4294967296 + y0 := HE.out.1
    obtain ⟨q1, hq1⟩ : ∃ q1, q1 = (u * 4294967296 + d1) / (y1 * 4294967296 + y0) := ⟨_, rfl⟩
    obtain ⟨R, hR⟩ : ∃ R, R = (u * 4294967296 + d1) % (y1 * 4294967296 + y0) := ⟨_, rfl⟩
    rw [← hq1]
    have hRl : R < Y := by rw [hR, hYe]; exact Nat.mod_lt _ (by omega)
    have hdm : q1 * Y + R = u * 4294967296 + d1 := by
      have := Nat.div_add_mod (u * 4294967296 + d1) (y1 * 4294967296 + y0)
      rw [← hq1, ← hR, ← hYe, Nat.mul_comm] at this
      exact this
    have hqs : q1 < 4294967296 := by rw [hq1]; exact Pd.small (by omega) l4
    have k8 : IntKind.u64.wrap (IntKind.u64.wrap (IntKind.u64.wrap ((u : Int) * 4294967296) + (d1 : Int)) - IntKind.u64.wrap ((q1 : Int) * (Y : Int))) = (R : Int) := by
      have e : (q1 : Int) * (Y : Int) = ((q1 * Y : Nat) : Int) := (Int.natCast_mul _ _).symm
      rw [e]
      simp only [IntKind.wrap_u64]
      omega
    have k9 : IntKind.u64.wrap ((R : Int).tdiv (y1 : Int)) = ((R / y1 : Nat) : Int) := by
      have e : (R : Int).tdiv (y1 : Int) = ((R / y1 : Nat) : Int) := rfl
      have : R / y1 ≤ R := Nat.div_le_self _ _
      rw [e, wrapN _ (by omega)]
    have k9' : IntKind.u64.wrap ((R : Int) / (y1 : Int)) = ((R / y1 : Nat) : Int) := by
      have : R / y1 ≤ R := Nat.div_le_self _ _
      rw [← Int.natCast_ediv, wrapN _ (by omega)]
    have k10 : IntKind.u64.wrap ((R : Int) - IntKind.u64.wrap (((R / y1 : Nat) : Int) * (y1 : Int))) = ((R % y1 : Nat) : Int) := by
      have h1 := Nat.div_add_mod R y1
      have h2 : (((R / y1 : Nat) : Int) * (y1 : Int)) = ((y1 * (R / y1) : Nat) : Int) := by rw [Nat.mul_comm, Int.natCast_mul]
      have h3 : y1 * (R / y1) ≤ R := Nat.mul_div_le _ _
      rw [h2, wrapN _ (by omega), IntKind.wrap_u64]
      omega
    have HS2 : Hid (Pd.Inv y1 y0 R d0 (R / y1) (R % y1)) := Pd.start l1 l2 l3 (by omega) l5
    generalize R / y1 = qb at *
    generalize R % y1 = rb at *
    have HM : Hid (q1 = (u * 4294967296 + d1) / (y1 * 4294967296 + y0) ∧ R = (u * 4294967296 + d1) % (y1 * 4294967296 + y0)) := ⟨hq1, hR⟩
    clear hq1 hR hdm hYe
    go_upto_block 2 with fail
    go_cut [18, 16] (fun v15 v16 wx => v15 = .int .u64 (((R * 4294967296 + d0) / (y1 * 4294967296 + y0) : Nat) : Int) ∧ (∃ r : Nat, v16 = .int .u64 r) ∧ w = wx)
    case first =>
      go_wp2_with fail
      go_loopw [18, 16] (fun v15 v16 wx => ∃ q r : Nat, v15 = .int .u64 q ∧ v16 = .int .u64 r ∧ Pd.Inv y1 y0 R d0 q r ∧ w = wx) (fun v15 _ _ => (RowKit.intOf v15).toNat)
      case atStart => exact ⟨qb, rb, rfl, rfl, HS2.out, rfl⟩
      case round =>
        obtain ⟨q, r, rfl, rfl, hI, rfl⟩ := hrel
        have hq2 : q ≤ 4294967297 := hI.2.2.1
        have hr2 : r < 4294967296 := hI.2.2.2
        have HI : Hid (Pd.Inv y1 y0 R d0 q r) := hI
        clear hI
        have w1 : IntKind.u64.wrap (4294967296 * (r : Int)) = 4294967296 * (r : Int) := by rw [IntKind.wrap_u64]; omega
        have w2 : IntKind.u64.wrap (4294967296 * (r : Int) + (d0 : Int)) = 4294967296 * (r : Int) + (d0 : Int) := by rw [IntKind.wrap_u64]; omega
        obtain ⟨r2, hr9⟩ : ∃ r2, r2 = r + y1 := ⟨_, rfl⟩
        have w3 : IntKind.u64.wrap ((r : Int) + (y1 : Int)) = (r2 : Int) := by rw [IntKind.wrap_u64]; omega
        have HR9 : Hid (r2 = r + y1) := hr9
        have hr10 : 4294967296 ≤ r + y1 ↔ (4294967296 : Int) ≤ (r2 : Int) := by omega
        have HR10 : Hid (4294967296 ≤ r + y1 ↔ (4294967296 : Int) ≤ (r2 : Int)) := hr10
        clear hr9 hr10
        by_cases hB : 4294967296 ≤ q
        · have hB' : (4294967296 : Int) ≤ (q : Int) := by omega
          obtain ⟨k, hk⟩ : ∃ k, k = q - 1 := ⟨_, rfl⟩
          have HBB : Hid (4294967296 ≤ q) := hB
          have w4 : IntKind.u64.wrap ((q : Int) - 1) = (k : Int) := by rw [IntKind.wrap_u64]; omega
          have HKK : Hid (k = q - 1 ∧ 1 ≤ q) := ⟨hk, by omega⟩
          clear hk hB hq2
          by_cases hr : 4294967296 ≤ r + y1
          · have hr' : (4294967296 : Int) ≤ (r2 : Int) := HR10.out.1 hr
            have HRR : Hid (4294967296 ≤ r + y1) := hr
            clear hr
            go_wp2_with fail
            go_meet
            case rel =>
              have := Pd.leave HI.out (by omega) l3 (by have := HE.out.1; omega) l5 (.inl HBB.out) HRR.out
              exact ⟨by rw [← this, HKK.out.1], ⟨_, rfl⟩, rfl⟩
          · have hr' : ¬ (4294967296 : Int) ≤ (r2 : Int) := fun h => hr (HR10.out.2 h)
            have HRR : Hid (¬ 4294967296 ≤ r + y1) := hr
            clear hr
            go_wp2_with fail
            go_roundw
            case rel => exact ⟨k, r2, rfl, rfl, by rw [HKK.out.1, HR9.out]; exact Pd.again HI.out (by have := HE.out.1; omega) l5 (.inl HBB.out) (by have := HRR.out; omega), by first | rfl | trivial⟩
            case measure => have := HKK.out; simp [RowKit.intOf]; omega
        · have hB' : ¬ (4294967296 : Int) ≤ (q : Int) := by omega
          have hm : q * y0 < 18446744073709551616 := Nat.lt_of_le_of_lt (Nat.mul_le_mul (show q ≤ 4294967295 by omega) (show y0 ≤ 4294967295 by omega)) (by decide)
          have w6 : IntKind.u64.wrap ((q : Int) * (y0 : Int)) = ((q * y0 : Nat) : Int) := by rw [← Int.natCast_mul, wrapN _ hm]
          by_cases hT : 4294967296 * r + d0 < q * y0
          · have hT' : 4294967296 * (r : Int) + (d0 : Int) < ((q * y0 : Nat) : Int) := by omega
            have hq1 : 1 ≤ q := (Pd.down HI.out (by have := HE.out.1; omega) l5 (.inr hT)).1
            obtain ⟨k, hk⟩ : ∃ k, k = q - 1 := ⟨_, rfl⟩
            have w4 : IntKind.u64.wrap ((q : Int) - 1) = (k : Int) := by rw [IntKind.wrap_u64]; omega
            have HKK : Hid (k = q - 1 ∧ 1 ≤ q) := ⟨hk, by omega⟩
            clear hk hq1
            by_cases hr : 4294967296 ≤ r + y1
            · have hr' : (4294967296 : Int) ≤ (r2 : Int) := HR10.out.1 hr
              have HRR : Hid (4294967296 ≤ r + y1) := hr
              clear hr
              go_wp2_with fail
              go_meet
              case rel =>
                have := Pd.leave HI.out (by omega) l3 (by have := HE.out.1; omega) l5 (.inr hT) HRR.out
                exact ⟨by rw [← this, HKK.out.1], ⟨_, rfl⟩, rfl⟩
            · have hr' : ¬ (4294967296 : Int) ≤ (r2 : Int) := fun h => hr (HR10.out.2 h)
              have HRR : Hid (¬ 4294967296 ≤ r + y1) := hr
              clear hr
              go_wp2_with fail
              go_roundw
              case rel => exact ⟨k, r2, rfl, rfl, by rw [HKK.out.1, HR9.out]; exact Pd.again HI.out (by have := HE.out.1; omega) l5 (.inr hT) (by have := HRR.out; omega), by first | rfl | trivial⟩
              case measure => have := HKK.out; simp [RowKit.intOf]; omega
          · have hT' : ¬ 4294967296 * (r : Int) + (d0 : Int) < ((q * y0 : Nat) : Int) := by omega
            go_wp2_with fail
            go_meet
            case rel =>
              have := Pd.stop HI.out (by omega) (by omega)
              exact ⟨by rw [← this], ⟨_, rfl⟩, rfl⟩
    case rest =>
      obtain ⟨rfl, ⟨r9, rfl⟩, rfl⟩ := hcut
      have hYe : Y = y1 * 4294967296 + y0 := HE.out.1
      obtain ⟨q2, hq2⟩ : ∃ q2, q2 = (R * 4294967296 + d0) / (y1 * 4294967296 + y0) := ⟨_, rfl⟩
      obtain ⟨R2, hR2⟩ : ∃ R2, R2 = (R * 4294967296 + d0) % (y1 * 4294967296 + y0) := ⟨_, rfl⟩
      rw [← hq2]
      have hRl2 : R2 < Y := by rw [hR2, hYe]; exact Nat.mod_lt _ (by omega)
      have hdm2 : q2 * Y + R2 = R * 4294967296 + d0 := by
        have := Nat.div_add_mod (R * 4294967296 + d0) (y1 * 4294967296 + y0)
        rw [← hq2, ← hR2, ← hYe, Nat.mul_comm] at this
        exact this
      have hqs2 : q2 < 4294967296 := by rw [hq2]; exact Pd.small (by omega) l5
      have k11 : IntKind.u64.wrap (IntKind.u64.wrap (IntKind.u64.wrap ((R : Int) * 4294967296) + (d0 : Int)) - IntKind.u64.wrap ((q2 : Int) * (Y : Int))) = (R2 : Int) := by
        have e : (q2 : Int) * (Y : Int) = ((q2 * Y : Nat) : Int) := (Int.natCast_mul _ _).symm
        rw [e]
        simp only [IntKind.wrap_u64]
        omega
      have k12 : IntKind.u64.wrap (IntKind.u64.wrap ((q1 : Int) * 4294967296) + (q2 : Int)) = ((q1 * 4294967296 + q2 : Nat) : Int) := by
        simp only [IntKind.wrap_u64]
        omega
      have htwo := Pd.two Y (u * 4294967296 + d1) d0 (by omega)
      have hfin1 : (hi * 18446744073709551616 + lo) / y = q1 * 4294967296 + q2 := by
        rw [HQ.out.1, show u * 18446744073709551616 + v = (u * 4294967296 + d1) * 4294967296 + d0 by have := HE.out.2.1; omega, htwo.1]
        have e1 : (u * 4294967296 + d1) / Y = q1 := by rw [hYe]; exact HM.out.1.symm
        have e2 : (u * 4294967296 + d1) % Y = R := by rw [hYe]; exact HM.out.2.symm
        rw [e1, e2, hq2, hYe]
      have hfin2 : (R2 : Int) / 2 ^ s = (((hi * 18446744073709551616 + lo) % y : Nat) : Int) := by
        have e0 : (hi * 18446744073709551616 + lo) % y * 2 ^ s = R2 := by
          rw [HQ.out.2, show u * 18446744073709551616 + v = (u * 4294967296 + d1) * 4294967296 + d0 by have := HE.out.2.1; omega, htwo.2]
          have e2 : (u * 4294967296 + d1) % Y = R := by rw [hYe]; exact HM.out.2.symm
          rw [e2, hR2, hYe]
        rw [← e0, ← cast_pow]
        exact Int.mul_ediv_cancel _ (by exact Int.ne_of_gt (Int.pow_pos (by decide)))
      have HFIN : Hid ((hi * 18446744073709551616 + lo) / y = q1 * 4294967296 + q2 ∧ (R2 : Int) / 2 ^ s = (((hi * 18446744073709551616 + lo) % y : Nat) : Int)) := ⟨hfin1, hfin2⟩
      clear hq2 hR2 hdm2 hYe htwo hfin1 hfin2
      go_wp2_with fail
      go_ret2
      refine ⟨?_, rfl⟩
      rw [HFIN.out.1, ← HFIN.out.2]
      rfl

set_option maxHeartbeats 2000000 in
theorem div64Z (lo y : Nat) (h0 : 0 < y) (hl : lo < 18446744073709551616) (hy' : y < 18446744073709551616) (w : World) :
    Calls Try.prog 41 #[.int .u64 0, .int .u64 lo, .int .u64 y] w fun e w' => e = .returned (.tuple #[.int .u64 ((lo / y : Nat) : Int), .int .u64 ((lo % y : Nat) : Int)]) ∧ ∃ q, w' = w.drewN q := by
  have z1 : ¬ (y : Int) = 0 := by omega
  have z2 : ¬ (y : Int) ≤ 0 := by omega
  have k6 : IntKind.u64.wrap ((lo : Int) / (y : Int)) = ((lo / y : Nat) : Int) := by
    have : lo / y ≤ lo := Nat.div_le_self _ _
    rw [← Int.natCast_ediv, wrapN _ (by omega)]
  have k7 : IntKind.u64.wrap ((lo : Int).tdiv (y : Int)) = ((lo / y : Nat) : Int) := by
    have e : (lo : Int).tdiv (y : Int) = ((lo / y : Nat) : Int) := rfl
    have : lo / y ≤ lo := Nat.div_le_self _ _
    rw [e, wrapN _ (by omega)]
  have k8 : IntKind.u64.wrap ((lo : Int) % (y : Int)) = ((lo % y : Nat) : Int) := by
    have : lo % y < y := Nat.mod_lt _ h0
    rw [← Int.natCast_emod, wrapN _ (by omega)]
  have k9 : IntKind.u64.wrap ((lo : Int).tmod (y : Int)) = ((lo % y : Nat) : Int) := by
    have e : (lo : Int).tmod (y : Int) = ((lo % y : Nat) : Int) := rfl
    have : lo % y < y := Nat.mod_lt _ h0
    rw [e, wrapN _ (by omega)]
  have k10 : (lo : Int) % (y : Int) = ((lo % y : Nat) : Int) := (Int.natCast_emod _ _).symm
  generalize lo / y = Q at *
  generalize lo % y = R at *
  go_enter Try.func41, Try.ntmps41
  go_wp2_with fail
  go_quiet (fail)
  go_wp2_with fail
  go_ret2
  exact ⟨by rw [← k10]; rfl, _, rfl⟩
/-- math/bits.Div64 -/
theorem div64 (hi lo y : Int) (a1 : 0 ≤ hi) (a2 : hi < y) (b1 : 0 ≤ lo) (b2 : lo < 18446744073709551616) (c : y < 18446744073709551616) (w : World) :
    Calls Try.prog 41 #[.int .u64 hi, .int .u64 lo, .int .u64 y] w fun e w' => e = .returned (.tuple #[.int .u64 ((hi * 18446744073709551616 + lo) / y), .int .u64 ((hi * 18446744073709551616 + lo) % y)]) ∧ ∃ q, w' = w.drewN q := by
  obtain ⟨hi, rfl⟩ := Int.eq_ofNat_of_zero_le a1
  obtain ⟨lo, rfl⟩ := Int.eq_ofNat_of_zero_le b1
  obtain ⟨y, rfl⟩ := Int.eq_ofNat_of_zero_le (Int.le_of_lt (Int.lt_of_le_of_lt a1 a2))
  rcases Nat.eq_zero_or_pos hi with h | h
  · subst h
    refine (div64Z lo y (by omega) (by omega) (by omega) w).mono ?_
    rintro e w' ⟨rfl, hq⟩
    refine ⟨?_, hq⟩
    simp
  · refine (div64N hi lo y h (by omega) (by omega) (by omega) w).mono ?_
    rintro e w' ⟨rfl, hq⟩
    refine ⟨?_, 0, hq⟩
    simp
end Go.Proofs.Qxb6616476a
