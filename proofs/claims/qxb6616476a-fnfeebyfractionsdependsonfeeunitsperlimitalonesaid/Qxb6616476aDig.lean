namespace Go.Proofs.Qxb6616476a

/-- the value of digits of 32 bits, the least first -/
def val : List Int → Int
  | [] => 0
  | d :: ds => d + 4294967296 * val ds
def Digs (ds : List Int) : Prop := ∀ d ∈ ds, 0 ≤ d ∧ d < 4294967296
def BB (n : Nat) : Int := 4294967296 ^ n
theorem BB_zero : BB 0 = 1 := rfl
theorem BB_succ (n : Nat) : BB (n + 1) = 4294967296 * BB n := by unfold BB; rw [Int.pow_succ, Int.mul_comm]
theorem BB_pos : ∀ n, 0 < BB n
  | 0 => by decide
  | n + 1 => by rw [BB_succ]; have := BB_pos n; omega
theorem BB_add (m n : Nat) : BB (m + n) = BB m * BB n := by unfold BB; rw [Int.pow_add]
theorem Digs.tail {d : Int} {ds : List Int} (h : Digs (d :: ds)) : Digs ds := fun x hx => h x (List.mem_cons_of_mem _ hx)
theorem Digs.head {d : Int} {ds : List Int} (h : Digs (d :: ds)) : 0 ≤ d ∧ d < 4294967296 := h d (by simp)
theorem Digs.get {ds : List Int} (h : Digs ds) (i : Nat) (hi : i < ds.length) : 0 ≤ ds[i] ∧ ds[i] < 4294967296 := h _ (List.getElem_mem hi)
theorem Digs.set {ds : List Int} (h : Digs ds) (i : Nat) {x : Int} (hx : 0 ≤ x ∧ x < 4294967296) : Digs (ds.set i x) := by
  intro d hd
  rcases List.mem_or_eq_of_mem_set hd with h1 | h1
  · exact h d h1
  · rw [h1]; exact hx
theorem Digs.take {ds : List Int} (h : Digs ds) (n : Nat) : Digs (ds.take n) := fun d hd => h d (List.mem_of_mem_take hd)
theorem Digs.drop {ds : List Int} (h : Digs ds) (n : Nat) : Digs (ds.drop n) := fun d hd => h d (List.mem_of_mem_drop hd)
theorem val_nonneg : ∀ {ds : List Int}, Digs ds → 0 ≤ val ds
  | [], _ => by simp [val]
  | d :: ds, h => by have := val_nonneg h.tail; have := h.head; simp only [val]; omega
theorem val_lt : ∀ {ds : List Int}, Digs ds → val ds < BB ds.length
  | [], _ => by simp [val, BB_zero]
  | d :: ds, h => by
    have h1 := val_lt h.tail; have h2 := h.head
    simp only [val, List.length_cons]
    rw [BB_succ]
    omega
theorem val_append : ∀ (a b : List Int), val (a ++ b) = val a + BB a.length * val b
  | [], b => by simp [val, BB_zero]
  | d :: a, b => by
    simp only [List.cons_append, val, List.length_cons]
    rw [val_append a b, BB_succ, Int.mul_add, Int.mul_assoc]
    omega
theorem val_split (ds : List Int) (i : Nat) (hi : i ≤ ds.length) : val ds = val (ds.take i) + BB i * val (ds.drop i) := by
  have h := val_append (ds.take i) (ds.drop i)
  rw [List.take_append_drop, List.length_take, Nat.min_eq_left hi] at h
  exact h
theorem val_take_succ (ds : List Int) (i : Nat) (hi : i < ds.length) : val (ds.take (i + 1)) = val (ds.take i) + BB i * ds[i] := by
  rw [List.take_succ_eq_append_getElem hi, val_append]
  simp [val, List.length_take, Nat.min_eq_left (Nat.le_of_lt hi)]
theorem val_drop (ds : List Int) (i : Nat) (hi : i < ds.length) : val (ds.drop i) = ds[i] + 4294967296 * val (ds.drop (i + 1)) := by
  rw [List.drop_eq_getElem_cons hi]
  simp only [val]
theorem val_set (ds : List Int) (i : Nat) (hi : i < ds.length) (x : Int) : val (ds.set i x) = val ds + BB i * (x - ds[i]) := by
  rw [val_split ds i (by omega), val_split (ds.set i x) i (by simp; omega)]
  rw [val_drop ds i hi, val_drop (ds.set i x) i (by simpa using hi)]
  rw [List.take_set_of_le (by omega), List.drop_set_of_lt (by omega)]
  simp only [List.getElem_set_self, Int.mul_add, Int.mul_sub]
  omega
theorem val_take_set (ds : List Int) (i : Nat) (x : Int) : val ((ds.set i x).take i) = val (ds.take i) := by
  rw [List.take_set_of_le (by omega)]
theorem val_replicate : ∀ n, val (List.replicate n 0) = 0
  | 0 => rfl
  | n + 1 => by rw [List.replicate_succ]; simp only [val]; rw [val_replicate n]; rfl

/-- one step of the sum -/
theorem add_step (as bs zs : List Int) (i : Nat) (ha : i < as.length) (hb : i < bs.length) (hz : i < zs.length) (c t : Int) (ht : t = as[i] + bs[i] + c)
    (h : val (zs.take i) + BB i * c = val (as.take i) + val (bs.take i)) :
    val ((zs.set i (t % 4294967296)).take (i + 1)) + BB (i + 1) * (t / 4294967296) = val (as.take (i + 1)) + val (bs.take (i + 1)) := by
  rw [val_take_succ _ i (by simpa using hz), val_take_set, val_take_succ as i ha, val_take_succ bs i hb, BB_succ]
  simp only [List.getElem_set_self]
  have e1 : BB i * t = BB i * as[i] + BB i * bs[i] + BB i * c := by rw [ht, Int.mul_add, Int.mul_add]
  have e2 : BB i * t = BB i * (t % 4294967296) + 4294967296 * BB i * (t / 4294967296) := by
    rw [Int.mul_comm 4294967296, Int.mul_assoc, ← Int.mul_add, Int.emod_add_mul_ediv]
  omega
/-- one step of a row of the product -/
theorem mul_step (bs zs : List Int) (a : Int) (i j : Nat) (hb : j < bs.length) (hz : i + j < zs.length) (c t V : Int) (ht : t = a * bs[j] + zs[i + j] + c)
    (h : val zs + BB (i + j) * c = V + a * val (bs.take j) * BB i) :
    val (zs.set (i + j) (t % 4294967296)) + BB (i + j + 1) * (t / 4294967296) = V + a * val (bs.take (j + 1)) * BB i := by
  rw [val_set zs (i + j) hz, val_take_succ bs j hb, BB_succ]
  have e1 : BB (i + j) * t = BB (i + j) * (a * bs[j]) + BB (i + j) * zs[i + j] + BB (i + j) * c := by rw [ht, Int.mul_add, Int.mul_add]
  have e2 : BB (i + j) * t = BB (i + j) * (t % 4294967296) + 4294967296 * BB (i + j) * (t / 4294967296) := by
    rw [Int.mul_comm 4294967296, Int.mul_assoc, ← Int.mul_add, Int.emod_add_mul_ediv]
  have e3 : a * (val (bs.take j) + BB j * bs[j]) * BB i = a * val (bs.take j) * BB i + BB (i + j) * (a * bs[j]) := by
    rw [Int.mul_add, Int.add_mul, BB_add]
    congr 1
    ac_rfl
  rw [e3, Int.mul_sub]
  omega
/-- a row of the product, whole -/
theorem mul_row (as bs zs : List Int) (i : Nat) (hi : i < 24) (ha : as.length = 24) (hb : bs.length = 24) (c V K : Int)
    (h : val zs + BB 24 * c = V + as[i] * val (bs.take (24 - i)) * BB i)
    (hV : V + BB 24 * K = val (as.take i) * val bs) :
    ∃ K', val zs + BB 24 * K' = val (as.take (i + 1)) * val bs := by
  have e1 := val_split bs (24 - i) (by omega)
  have e2 := val_take_succ as i (by omega)
  have e3 : BB 24 = BB (24 - i) * BB i := by rw [← BB_add]; congr 1; omega
  refine ⟨c + K + as[i] * val (bs.drop (24 - i)), ?_⟩
  rw [e2, Int.add_mul, ← hV]
  have e4 : BB i * as[i] * val bs = as[i] * val (bs.take (24 - i)) * BB i + BB 24 * (as[i] * val (bs.drop (24 - i))) := by
    rw [e3]
    conv => lhs; rw [e1]
    rw [Int.mul_add]
    congr 1
    · rw [Int.mul_comm (BB i), Int.mul_assoc, Int.mul_assoc, Int.mul_comm (BB i)]
    · generalize BB i = p
      generalize BB (24 - i) = q
      generalize val (bs.drop (24 - i)) = r
      rw [Int.mul_comm p, Int.mul_assoc, Int.mul_comm q p, Int.mul_assoc, Int.mul_left_comm, Int.mul_left_comm as[i] q r]
  rw [e4, Int.mul_add, Int.mul_add]
  omega
theorem mul_skip (as bs : List Int) (i : Nat) (ha : i < as.length) (h0 : as[i] = 0) : val (as.take (i + 1)) * val bs = val (as.take i) * val bs := by
  rw [val_take_succ as i ha, h0]; simp
theorem take_zero_val (as : List Int) : val (as.take 0) = 0 := by simp [val]
/-- the first digits from the top that differ decide -/
theorem cmp_at (as bs : List Int) (i : Nat) (ha : i < as.length) (hb : i < bs.length) (hda : Digs as) (hdb : Digs bs) (hs : as.drop (i + 1) = bs.drop (i + 1)) (hlt : as[i] < bs[i]) : val as < val bs := by
  rw [val_split as i (by omega), val_split bs i (by omega), val_drop as i ha, val_drop bs i hb, hs]
  have h1 := val_lt (hda.take i)
  rw [List.length_take, Nat.min_eq_left (by omega)] at h1
  have h2 := val_nonneg (hdb.take i)
  have h3 : BB i * 1 ≤ BB i * (bs[i] - as[i]) := Int.mul_le_mul_of_nonneg_left (by omega) (Int.le_of_lt (BB_pos i))
  rw [Int.mul_sub] at h3
  rw [Int.mul_add, Int.mul_add]
  omega
theorem cmp_at_eq (as bs : List Int) (i : Nat) (ha : i < as.length) (hb : i < bs.length) (hs : as.drop (i + 1) = bs.drop (i + 1)) (h : as[i] = bs[i]) : as.drop i = bs.drop i := by
  rw [List.drop_eq_getElem_cons ha, List.drop_eq_getElem_cons hb, h, hs]
/-- one step of the shift -/
theorem shl_step (as zs : List Int) (i : Nat) (h4 : 4 ≤ i) (ha : i - 4 < as.length) (hz : i < zs.length) (h : val (zs.take i) = BB 4 * val (as.take (i - 4))) :
    val ((zs.set i as[i - 4]).take (i + 1)) = BB 4 * val (as.take (i + 1 - 4)) := by
  have e : i + 1 - 4 = (i - 4) + 1 := by omega
  rw [e, val_take_succ _ i (by simpa using hz), val_take_set, val_take_succ as (i - 4) ha, h]
  simp only [List.getElem_set_self]
  rw [Int.mul_add, ← Int.mul_assoc, ← BB_add]
  congr 3
  omega
theorem fits_eq {x y K : Int} {n : Nat} (h : x + BB n * K = y) (hx : 0 ≤ x ∧ x < BB n) (hy : 0 ≤ y ∧ y < BB n) : x = y := by
  have hp := BB_pos n
  have hK : K = 0 := by
    by_cases h1 : K ≤ -1
    · have := Int.mul_le_mul_of_nonneg_left h1 (Int.le_of_lt hp); omega
    · by_cases h2 : 1 ≤ K
      · have := Int.mul_le_mul_of_nonneg_left h2 (Int.le_of_lt hp); omega
      · omega
  rw [hK] at h
  omega
end Go.Proofs.Qxb6616476a
namespace Go.Proofs.Qxb6616476a
/-- the n lowest digits of x -/
def Dg : Nat → Int → List Int
  | 0, _ => []
  | n + 1, x => x % 4294967296 :: Dg n (x / 4294967296)
theorem Dg_len : ∀ n x, (Dg n x).length = n
  | 0, _ => rfl
  | n + 1, x => by simp [Dg, Dg_len n]
theorem Dg_digs : ∀ n x, Digs (Dg n x)
  | 0, _ => fun d hd => by simp [Dg] at hd
  | n + 1, x => fun d hd => by
    simp only [Dg, List.mem_cons] at hd
    rcases hd with h | h
    · omega
    · exact Dg_digs n _ d h
theorem Dg_unique : ∀ (n : Nat) (ds : List Int) (x K : Int), ds.length = n → Digs ds → val ds + BB n * K = x → ds = Dg n x
  | 0, [], _, _, _, _, _ => rfl
  | n + 1, d :: ds, x, K, hl, hd, h => by
    have h1 := hd.head
    simp only [val] at h
    rw [BB_succ, Int.mul_assoc] at h
    have e1 : x % 4294967296 = d := by omega
    have e2 : val ds + BB n * K = x / 4294967296 := by omega
    simp only [Dg]
    rw [e1, Dg_unique n ds (x / 4294967296) K (by simpa using hl) hd.tail e2]
theorem Dg_val : ∀ (n : Nat) (x : Int), ∃ K, val (Dg n x) + BB n * K = x
  | 0, x => ⟨x, by simp [Dg, val, BB_zero]⟩
  | n + 1, x => by
    obtain ⟨K, h⟩ := Dg_val n (x / 4294967296)
    refine ⟨K, ?_⟩
    simp only [Dg, val]
    rw [BB_succ, Int.mul_assoc]
    omega
theorem Dg_val_eq {n : Nat} {x : Int} (h : 0 ≤ x ∧ x < BB n) : val (Dg n x) = x := by
  obtain ⟨K, e⟩ := Dg_val n x
  have h1 := val_lt (Dg_digs n x)
  rw [Dg_len] at h1
  exact fits_eq e ⟨val_nonneg (Dg_digs n x), h1⟩ h
theorem Dg_mul {n : Nat} {x y K : Int} {ds : List Int} (hl : ds.length = n) (hd : Digs ds) (h : val ds + BB n * K = val (Dg n x) * val (Dg n y)) : ds = Dg n (x * y) := by
  obtain ⟨K1, e1⟩ := Dg_val n x
  obtain ⟨K2, e2⟩ := Dg_val n y
  refine Dg_unique n ds (x * y) (K + val (Dg n x) * K2 + K1 * y) hl hd ?_
  have e3 : x * y = val (Dg n x) * y + BB n * (K1 * y) := by
    conv => lhs; rw [← e1]
    rw [Int.add_mul, Int.mul_assoc]
  have e4 : val (Dg n x) * y = val (Dg n x) * val (Dg n y) + BB n * (val (Dg n x) * K2) := by
    conv => lhs; rw [← e2]
    rw [Int.mul_add]; congr 1; ac_rfl
  rw [e3, e4, ← h, Int.mul_add, Int.mul_add]
  omega
theorem Dg_add {n : Nat} {x y K : Int} {ds : List Int} (hl : ds.length = n) (hd : Digs ds) (h : val ds + BB n * K = val (Dg n x) + val (Dg n y)) : ds = Dg n (x + y) := by
  obtain ⟨K1, e1⟩ := Dg_val n x
  obtain ⟨K2, e2⟩ := Dg_val n y
  refine Dg_unique n ds (x + y) (K + K1 + K2) hl hd ?_
  rw [Int.mul_add, Int.mul_add]
  omega
theorem Dg_shl {x : Int} {ds : List Int} (hl : ds.length = 24) (hd : Digs ds) (h : val ds = BB 4 * val ((Dg 24 x).take 20)) : ds = Dg 24 (x * 340282366920938463463374607431768211456) := by
  obtain ⟨K1, e1⟩ := Dg_val 24 x
  have e2 := val_split (Dg 24 x) 20 (by rw [Dg_len]; omega)
  refine Dg_unique 24 ds _ (val ((Dg 24 x).drop 20) + K1 * BB 4) hl hd ?_
  have b4 : BB 4 = 340282366920938463463374607431768211456 := by decide
  have b24 : BB 24 = BB 4 * BB 20 := by decide
  rw [h, ← b4, b24]
  rw [e2, b24] at e1
  generalize val ((Dg 24 x).take 20) = p at *
  generalize val ((Dg 24 x).drop 20) = q at *
  generalize BB 4 = u at *
  generalize BB 20 = v at *
  rw [← e1]
  rw [Int.mul_add, Int.add_mul, Int.add_mul, Int.mul_comm u p]
  have q1 : u * v * q = v * q * u := by ac_rfl
  have q2 : u * v * (K1 * u) = u * v * K1 * u := by ac_rfl
  omega
end Go.Proofs.Qxb6616476a
