/-
  Floats: a finite double stands for a whole number of 2^-1074. What order, sum, difference, product, quotient give where the exact answer is a double. No condition.
-/
import Ieee.Arith
import GoSem.Core.Float
namespace Go.Proofs.YtflaklceejokhaaDoor.flt
open Ieee
set_option linter.unusedVariables false
set_option linter.unusedSimpArgs false

/-- A whole number with a sign. -/
def sg (neg : Bool) (x : Nat) : Int := if neg then -(x : Int) else (x : Int)

theorem sg_natAbs (neg : Bool) (x : Nat) : (sg neg x).natAbs = x := by unfold sg; split <;> simp
theorem sg_zero (neg : Bool) : sg neg 0 = 0 := by unfold sg; split <;> rfl
theorem sg_mul (neg : Bool) (x y : Nat) : sg neg (x * y) = sg neg x * (y : Int) := by
  unfold sg; split
  · rw [Int.natCast_mul, Int.neg_mul]
  · rw [Int.natCast_mul]
theorem signed_eq (neg : Bool) (m up : Nat) : signed neg m up = sg neg (m * 2 ^ up) := by
  unfold signed sg
  rw [Nat.shiftLeft_eq]

/-- The number 1074, not to be reckoned with. -/
def E1074 : Nat := 1074
theorem E_eq : E1074 = 1074 := rfl

/-- The double b is finite; it stands for n * 2^-1074. -/
def FV (b : Nat) (n : Int) : Prop := ∃ (neg : Bool) (mag p : Nat), double.read b = .number neg mag ((p : Int) - 1074) ∧ n = sg neg (mag * 2 ^ p)

/-- n * 2^-1074 is a double. -/
def Rep (n : Int) : Prop := ∃ m e : Nat, n.natAbs = m * 2 ^ e ∧ m < 2 ^ 53 ∧ e ≤ 2045

theorem binade_eq : double.binade = 4503599627370496 := by decide
theorem least_eq : double.leastPlace = -1074 := by decide
theorem inf_eq : double.infRung = 9218868437227405312 := by decide
theorem sw_eq : double.signWeight = 9223372036854775808 := by decide

theorem read_word (neg : Bool) (rung : Nat) (h : rung < 9218868437227405312) :
    double.read (double.word neg rung) = if rung < 4503599627370496 then .number neg rung (-1074) else .number neg (4503599627370496 + rung % 4503599627370496) (-1074 + ((rung / 4503599627370496 - 1 : Nat) : Int)) := by
  unfold Format.read Format.word
  rw [sw_eq, binade_eq, inf_eq, least_eq]
  have e1 : (if neg = true then 9223372036854775808 + rung else rung) % 9223372036854775808 = rung := by split <;> omega
  have e2 : ((if neg = true then 9223372036854775808 + rung else rung) / 9223372036854775808 % 2 == 1) = neg := by
    cases neg
    · simp; omega
    · simp; omega
  rw [e1, e2]
  by_cases h1 : rung < 4503599627370496
  · simp [h1]
  · simp [h1, h]

theorem word_FV (neg : Bool) (t kept : Nat) (ht : t ≤ 2045) (hk : kept < 2 ^ 53) (h0 : t = 0 ∨ 2 ^ 52 ≤ kept) :
    FV (double.word neg (t * 4503599627370496 + kept)) (sg neg (kept * 2 ^ t)) := by
  have k53 : (2 : Nat) ^ 53 = 9007199254740992 := by decide
  have k52 : (2 : Nat) ^ 52 = 4503599627370496 := by decide
  rw [k53] at hk
  rw [k52] at h0
  have hr := read_word neg (t * 4503599627370496 + kept) (by omega)
  by_cases h1 : t * 4503599627370496 + kept < 4503599627370496
  · have ht0 : t = 0 := by omega
    subst ht0
    rw [if_pos h1] at hr
    refine ⟨neg, 0 * 4503599627370496 + kept, 0, hr, ?_⟩
    rw [Nat.zero_mul, Nat.zero_add]
  · rw [if_neg h1] at hr
    by_cases hk2 : kept < 4503599627370496
    · exfalso; omega
    · have e1 : (t * 4503599627370496 + kept) % 4503599627370496 = kept - 4503599627370496 := by omega
      have e2 : (t * 4503599627370496 + kept) / 4503599627370496 = t + 1 := by omega
      rw [e1, e2] at hr
      have e3 : 4503599627370496 + (kept - 4503599627370496) = kept := by omega
      rw [e3] at hr
      refine ⟨neg, kept, t, ?_, rfl⟩
      rw [hr]
      congr 1

theorem cut_exact (neg : Bool) (k d : Nat) (hk : 0 < k) : Toward.even.cut neg (k * 2 ^ d) d = k := by
  unfold Toward.cut
  have hl : d ≤ (k * 2 ^ d).log2 := by
    rw [Nat.le_log2 (by have := Nat.two_pow_pos d; exact Nat.ne_of_gt (Nat.mul_pos hk this))]
    exact Nat.le_mul_of_pos_left _ hk
  have hm : min d ((k * 2 ^ d).log2 + 2) = d := by omega
  simp only [hm, Nat.one_shiftLeft]
  have h1 : k * 2 ^ d / 2 ^ d = k := Nat.mul_div_cancel _ (Nat.two_pow_pos d)
  have h2 : k * 2 ^ d % 2 ^ d = 0 := Nat.mul_mod_left _ _
  rw [h1, h2]
  have h3 := Nat.two_pow_pos d
  have h4 : (decide (2 ^ d < 2 * 0) || 2 ^ d == 2 * 0 && k % 2 == 1) = false := by
    have : ¬ (2 ^ d = 0) := by omega
    simp [this]
  rw [h4]
  rfl

theorem log2_mul {n : Nat} (h : n ≠ 0) : ∀ k, (n * 2 ^ k).log2 = n.log2 + k := by
  intro k
  rw [Nat.log2_eq_iff (Nat.mul_ne_zero h (Nat.ne_of_gt (Nat.two_pow_pos k)))]
  have h1 := Nat.log2_self_le h
  have h2 : n < 2 ^ (n.log2 + 1) := Nat.lt_log2_self
  constructor
  · rw [Nat.pow_add]; exact Nat.mul_le_mul_right _ h1
  · rw [show n.log2 + k + 1 = (n.log2 + 1) + k from by omega, Nat.pow_add]
    exact Nat.mul_lt_mul_of_pos_right h2 (Nat.two_pow_pos k)

theorem rung_le (t K : Nat) (ht : t ≤ 2045) (hK : K < 2 ^ 53) : t * 4503599627370496 + K ≤ 9218868437227405312 := by
  have k53 : (2 : Nat) ^ 53 = 9007199254740992 := by decide
  rw [k53] at hK
  omega

/-- NEAREST, EXACT: mag * 2^place is a double. -/
theorem nearest_exact (neg : Bool) (mag : Nat) (place : Int) (N : Nat) (hN : mag * 2 ^ (place + 1074).toNat = N * 2 ^ (-(place + 1074)).toNat) (hr : Rep (N : Int)) :
    FV (double.nearest neg mag place) (sg neg N) := by
  unfold Format.nearest
  by_cases h0 : mag = 0
  · subst h0
    rw [if_pos rfl]
    have hN0 : N = 0 := by
      rw [Nat.zero_mul] at hN
      rcases Nat.mul_eq_zero.1 hN.symm with h | h
      · exact h
      · have := Nat.two_pow_pos (-(place + 1074)).toNat; omega
    subst hN0
    have := word_FV neg 0 0 (by omega) (by decide) (Or.inl rfl)
    simpa using this
  · rw [if_neg h0]
    obtain ⟨m, e, hNm, hm, he⟩ := hr
    have hNm' : N = m * 2 ^ e := by simpa using hNm
    have hNpos : N ≠ 0 := by
      rintro rfl
      rw [Nat.zero_mul] at hN
      rcases Nat.mul_eq_zero.1 hN with h | h
      · exact h0 h
      · have := Nat.two_pow_pos (place + 1074).toNat; omega
    have hlog : (N.log2 : Int) = place + mag.log2 + 1074 := by
      have a1 : (mag * 2 ^ (place + 1074).toNat).log2 = mag.log2 + (place + 1074).toNat := log2_mul h0 _
      have a2 : (N * 2 ^ (-(place + 1074)).toNat).log2 = N.log2 + (-(place + 1074)).toNat := log2_mul hNpos _
      rw [hN, a2] at a1
      omega
    obtain ⟨t, ht⟩ : ∃ t, t = N.log2 - 52 := ⟨_, rfl⟩
    have hte : t ≤ e := by
      have h1 : N < 2 ^ (53 + e) := by
        rw [hNm', Nat.pow_add]
        exact Nat.mul_lt_mul_of_pos_right hm (Nat.two_pow_pos e)
      have := (Nat.log2_lt hNpos).2 h1
      omega
    obtain ⟨K, hK⟩ : ∃ K, K = m * 2 ^ (e - t) := ⟨_, rfl⟩
    have hNK : N = K * 2 ^ t := by
      rw [hK, Nat.mul_assoc, ← Nat.pow_add, Nat.sub_add_cancel hte]
      exact hNm'
    have hK53 : K < 2 ^ 53 := by
      have h1 : N < 2 ^ (N.log2 + 1) := Nat.lt_log2_self
      have h2 : 2 ^ (N.log2 + 1) ≤ 2 ^ (53 + t) := Nat.pow_le_pow_right (by decide) (by omega)
      have h3 : K * 2 ^ t < 2 ^ 53 * 2 ^ t := by rw [← Nat.pow_add, ← hNK]; omega
      exact Nat.lt_of_mul_lt_mul_right h3
    have hK52 : t = 0 ∨ 2 ^ 52 ≤ K := by
      by_cases hz : t = 0
      · exact Or.inl hz
      · right
        have h1 : 2 ^ N.log2 ≤ N := Nat.log2_self_le hNpos
        have h2 : 2 ^ 52 * 2 ^ t ≤ K * 2 ^ t := by
          rw [← Nat.pow_add, ← hNK]
          rw [show 52 + t = N.log2 from by omega]
          exact h1
        exact Nat.le_of_mul_le_mul_right h2 (Nat.two_pow_pos t)
    have hKpos : 0 < K := by
      rcases Nat.eq_zero_or_pos K with h | h
      · rw [h, Nat.zero_mul] at hNK; exact absurd hNK hNpos
      · exact h
    have hlast : max (place + (mag.log2 : Int) - (double.fractionBits : Int)) (-1074) = (t : Int) - 1074 := by
      have : (double.fractionBits : Int) = 52 := rfl
      rw [this]
      omega
    rw [least_eq, binade_eq, inf_eq]
    simp only [hlast]
    have e1 : ((t : Int) - 1074 - -1074).toNat = t := by omega
    rw [e1]
    have hcd : mag <<< (place - ((t : Int) - 1074)).toNat = K * 2 ^ ((t : Int) - 1074 - place).toNat := by
      rw [Nat.shiftLeft_eq]
      have h1 : mag * 2 ^ (place + 1074).toNat * 2 ^ ((t : Int) - 1074 - place).toNat = K * 2 ^ t * 2 ^ (-(place + 1074)).toNat * 2 ^ ((t : Int) - 1074 - place).toNat := by rw [hN, hNK]
      have h2 : mag * 2 ^ (place - ((t : Int) - 1074)).toNat * 2 ^ (t + (-(place + 1074)).toNat) = K * 2 ^ ((t : Int) - 1074 - place).toNat * 2 ^ (t + (-(place + 1074)).toNat) := by
        rw [Nat.mul_assoc, ← Nat.pow_add] at h1
        rw [Nat.mul_assoc, ← Nat.pow_add, show (place - ((t : Int) - 1074)).toNat + (t + (-(place + 1074)).toNat) = (place + 1074).toNat + ((t : Int) - 1074 - place).toNat from by omega, h1]
        simp only [Nat.pow_add, Nat.mul_assoc, Nat.mul_comm, Nat.mul_left_comm]
      exact Nat.eq_of_mul_eq_mul_right (Nat.two_pow_pos _) h2
    rw [hcd, cut_exact neg K _ hKpos]
    rw [Nat.min_eq_left (rung_le t K (by omega) hK53), hNK]
    exact word_FV neg t K (by omega) hK53 hK52
theorem compare_eq (x y : Int) : compare x y = if x < y then .lt else if x = y then .eq else .gt := rfl

theorem compare_scale (x y : Int) (c : Nat) (hc : 0 < c) : compare (x * (c : Int)) (y * (c : Int)) = compare x y := by
  have hc' : (0 : Int) < (c : Int) := by omega
  rw [compare_eq, compare_eq]
  have h1 : x * (c : Int) < y * (c : Int) ↔ x < y := ⟨fun h => Int.lt_of_mul_lt_mul_right h (Int.le_of_lt hc'), fun h => Int.mul_lt_mul_of_pos_right h hc'⟩
  have h2 : x * (c : Int) = y * (c : Int) ↔ x = y := ⟨fun h => Int.eq_of_mul_eq_mul_right (Int.ne_of_gt hc') h, fun h => by rw [h]⟩
  simp only [h1, h2]

theorem sg_shift (neg : Bool) (m p b : Nat) (h : b ≤ p) : sg neg (m * 2 ^ (p - b)) * ((2 ^ b : Nat) : Int) = sg neg (m * 2 ^ p) := by
  rw [← sg_mul, Nat.mul_assoc, ← Nat.pow_add, Nat.sub_add_cancel h]

/-- How two finite doubles stand to each other. -/
theorem order_FV {a b : Nat} {m n : Int} (ha : FV a m) (hb : FV b n) : double.order a b = some (compare m n) := by
  obtain ⟨s, x, p, hra, rfl⟩ := ha
  obtain ⟨t, y, q, hrb, rfl⟩ := hb
  unfold Format.order
  rw [hra, hrb]
  unfold Datum.order
  simp only [signed_eq]
  have e0 : min ((p : Int) - 1074) ((q : Int) - 1074) = ((min p q : Nat) : Int) - 1074 := by omega
  rw [e0]
  have e1 : ((p : Int) - 1074 - (((min p q : Nat) : Int) - 1074)).toNat = p - min p q := by omega
  have e2 : ((q : Int) - 1074 - (((min p q : Nat) : Int) - 1074)).toNat = q - min p q := by omega
  rw [e1, e2, ← compare_scale _ _ (2 ^ min p q) (Nat.two_pow_pos _), sg_shift _ _ _ _ (Nat.min_le_left _ _), sg_shift _ _ _ _ (Nat.min_le_right _ _)]

/-- The exact sum is a double: so it is the sum. -/
theorem add_FV {a b : Nat} {m n : Int} (ha : FV a m) (hb : FV b n) (hr : Rep (m + n)) : ∃ r, double.add a b = some r ∧ FV r (m + n) := by
  obtain ⟨s, x, p, hra, rfl⟩ := ha
  obtain ⟨t, y, q, hrb, rfl⟩ := hb
  unfold Format.add
  rw [hra, hrb]
  unfold Datum.sum
  simp only [signed_eq, Option.map_some]
  have e0 : min ((p : Int) - 1074) ((q : Int) - 1074) = ((min p q : Nat) : Int) - 1074 := by omega
  rw [e0]
  have e1 : ((p : Int) - 1074 - (((min p q : Nat) : Int) - 1074)).toNat = p - min p q := by omega
  have e2 : ((q : Int) - 1074 - (((min p q : Nat) : Int) - 1074)).toNat = q - min p q := by omega
  rw [e1, e2]
  obtain ⟨T, hT⟩ : ∃ T, T = sg s (x * 2 ^ (p - min p q)) + sg t (y * 2 ^ (q - min p q)) := ⟨_, rfl⟩
  have hTm : T * ((2 ^ min p q : Nat) : Int) = sg s (x * 2 ^ p) + sg t (y * 2 ^ q) := by
    rw [hT, Int.add_mul, sg_shift _ _ _ _ (Nat.min_le_left _ _), sg_shift _ _ _ _ (Nat.min_le_right _ _)]
  rw [← hT, ← hTm]
  rw [← hTm] at hr
  refine ⟨_, rfl, ?_⟩
  unfold Format.write
  have hN : (T * ((2 ^ min p q : Nat) : Int)).natAbs = T.natAbs * 2 ^ min p q := by rw [Int.natAbs_mul, Int.natAbs_natCast]
  have hx := nearest_exact (if T = 0 then (s && t) else decide (T < 0)) T.natAbs (((min p q : Nat) : Int) - 1074) (T.natAbs * 2 ^ min p q) (by
    rw [show (((min p q : Nat) : Int) - 1074 + 1074).toNat = min p q from by omega, show (-(((min p q : Nat) : Int) - 1074 + 1074)).toNat = 0 from by omega, Nat.pow_zero, Nat.mul_one]) (by
    obtain ⟨m, e, h1, h2, h3⟩ := hr
    exact ⟨m, e, by rw [← h1, hN]; rfl, h2, h3⟩)
  have hs : sg (if T = 0 then (s && t) else decide (T < 0)) (T.natAbs * 2 ^ min p q) = T * ((2 ^ min p q : Nat) : Int) := by
    rw [sg_mul]
    congr 1
    by_cases h0 : T = 0
    · subst h0; exact sg_zero _
    · rw [if_neg h0]
      unfold sg
      by_cases h1 : T < 0
      · simp only [h1, decide_true, if_true]; omega
      · simp only [h1, decide_false, Bool.false_eq_true, if_false]; omega
  rw [hs] at hx
  exact hx

theorem read_opposite_sub (a b : Nat) {n : Int} (hb : FV b n) : ∃ (neg : Bool) (mag p : Nat), (double.read b).opposite = .number neg mag ((p : Int) - 1074) ∧ -n = sg neg (mag * 2 ^ p) := by
  obtain ⟨t, y, q, hrb, rfl⟩ := hb
  refine ⟨!t, y, q, by rw [hrb]; rfl, ?_⟩
  cases t <;> simp [sg]

/-- The exact difference is a double: so it is the difference. -/
theorem sub_FV {a b : Nat} {m n : Int} (ha : FV a m) (hb : FV b n) (hr : Rep (m - n)) : ∃ r, double.sub a b = some r ∧ FV r (m - n) := by
  obtain ⟨t, y, q, hrb, hn⟩ := read_opposite_sub a b hb
  obtain ⟨s, x, p, hra, rfl⟩ := ha
  have hmn : sg s (x * 2 ^ p) - n = sg s (x * 2 ^ p) + sg t (y * 2 ^ q) := by rw [← hn]; omega
  rw [hmn] at hr ⊢
  unfold Format.sub
  rw [hra, hrb]
  unfold Datum.sum
  simp only [signed_eq, Option.map_some]
  have e0 : min ((p : Int) - 1074) ((q : Int) - 1074) = ((min p q : Nat) : Int) - 1074 := by omega
  rw [e0]
  have e1 : ((p : Int) - 1074 - (((min p q : Nat) : Int) - 1074)).toNat = p - min p q := by omega
  have e2 : ((q : Int) - 1074 - (((min p q : Nat) : Int) - 1074)).toNat = q - min p q := by omega
  rw [e1, e2]
  obtain ⟨T, hT⟩ : ∃ T, T = sg s (x * 2 ^ (p - min p q)) + sg t (y * 2 ^ (q - min p q)) := ⟨_, rfl⟩
  have hTm : T * ((2 ^ min p q : Nat) : Int) = sg s (x * 2 ^ p) + sg t (y * 2 ^ q) := by
    rw [hT, Int.add_mul, sg_shift _ _ _ _ (Nat.min_le_left _ _), sg_shift _ _ _ _ (Nat.min_le_right _ _)]
  rw [← hT, ← hTm]
  rw [← hTm] at hr
  refine ⟨_, rfl, ?_⟩
  unfold Format.write
  have hN : (T * ((2 ^ min p q : Nat) : Int)).natAbs = T.natAbs * 2 ^ min p q := by rw [Int.natAbs_mul, Int.natAbs_natCast]
  have hx := nearest_exact (if T = 0 then (s && t) else decide (T < 0)) T.natAbs (((min p q : Nat) : Int) - 1074) (T.natAbs * 2 ^ min p q) (by
    rw [show (((min p q : Nat) : Int) - 1074 + 1074).toNat = min p q from by omega, show (-(((min p q : Nat) : Int) - 1074 + 1074)).toNat = 0 from by omega, Nat.pow_zero, Nat.mul_one]) (by
    obtain ⟨m, e, h1, h2, h3⟩ := hr
    exact ⟨m, e, by rw [← h1, hN]; rfl, h2, h3⟩)
  have hs : sg (if T = 0 then (s && t) else decide (T < 0)) (T.natAbs * 2 ^ min p q) = T * ((2 ^ min p q : Nat) : Int) := by
    rw [sg_mul]
    congr 1
    by_cases h0 : T = 0
    · subst h0; exact sg_zero _
    · rw [if_neg h0]
      unfold sg
      by_cases h1 : T < 0
      · simp only [h1, decide_true, if_true]; omega
      · simp only [h1, decide_false, Bool.false_eq_true, if_false]; omega
  rw [hs] at hx
  exact hx

theorem sg_xor (s t : Bool) (x y : Nat) : sg (s ^^ t) (x * y) = sg s x * sg t y := by
  cases s <;> cases t <;> simp [sg, Int.natCast_mul, Int.neg_mul, Int.mul_neg]

/-- The exact product is a double: so it is the product. -/
theorem mul_FV {a b : Nat} {m n P : Int} (ha : FV a m) (hb : FV b n) (hP : m * n = P * 2 ^ E1074) (hr : Rep P) : ∃ r, double.mul a b = some r ∧ FV r P := by
  obtain ⟨s, x, p, hra, rfl⟩ := ha
  obtain ⟨t, y, q, hrb, rfl⟩ := hb
  unfold Format.mul
  rw [hra, hrb]
  unfold Datum.product
  simp only [Option.map_some]
  refine ⟨_, rfl, ?_⟩
  unfold Format.write
  have hP2 : x * y * 2 ^ (p + q) = P.natAbs * 2 ^ E1074 := by
    have := congrArg Int.natAbs hP
    rw [Int.natAbs_mul, sg_natAbs, sg_natAbs, Int.natAbs_mul] at this
    have e : ((2 : Int) ^ E1074).natAbs = 2 ^ E1074 := by rw [Int.natAbs_pow, show (2 : Int).natAbs = 2 from rfl]
    rw [e] at this
    rw [← this, Nat.pow_add]
    simp only [Nat.mul_assoc, Nat.mul_comm, Nat.mul_left_comm]
  have hx := nearest_exact (s ^^ t) (x * y) ((p : Int) - 1074 + ((q : Int) - 1074)) P.natAbs (by
    have h1 : x * y * 2 ^ ((p : Int) - 1074 + ((q : Int) - 1074) + 1074).toNat * 2 ^ (if p + q ≤ E1074 then p + q else E1074) = P.natAbs * 2 ^ (-((p : Int) - 1074 + ((q : Int) - 1074) + 1074)).toNat * 2 ^ (if p + q ≤ E1074 then p + q else E1074) := by
      rw [Nat.mul_assoc, ← Nat.pow_add, Nat.mul_assoc (P.natAbs), ← Nat.pow_add]
      split
      · rw [show ((p : Int) - 1074 + ((q : Int) - 1074) + 1074).toNat + (p + q) = p + q from by rename_i h; rw [E_eq] at h; omega, show (-((p : Int) - 1074 + ((q : Int) - 1074) + 1074)).toNat + (p + q) = 1074 from by rename_i h; rw [E_eq] at h; omega]
        rw [← E_eq]; exact hP2
      · rw [show ((p : Int) - 1074 + ((q : Int) - 1074) + 1074).toNat + E1074 = p + q from by rw [E_eq]; rename_i h; rw [E_eq] at h; omega, show (-((p : Int) - 1074 + ((q : Int) - 1074) + 1074)).toNat + E1074 = E1074 from by rw [E_eq]; rename_i h; rw [E_eq] at h; omega]
        exact hP2
    exact Nat.eq_of_mul_eq_mul_right (Nat.two_pow_pos _) h1) (by
    obtain ⟨m, e, h1, h2, h3⟩ := hr
    exact ⟨m, e, h1, h2, h3⟩)
  have hs : sg (s ^^ t) P.natAbs = P := by
    have h1 : sg (s ^^ t) (x * 2 ^ p * (y * 2 ^ q)) = P * 2 ^ E1074 := by rw [sg_xor]; exact hP
    have h2 : x * 2 ^ p * (y * 2 ^ q) = P.natAbs * 2 ^ E1074 := by
      rw [← hP2, Nat.pow_add]
      simp only [Nat.mul_assoc, Nat.mul_comm, Nat.mul_left_comm]
    rw [h2, sg_mul] at h1
    have e : ((2 ^ E1074 : Nat) : Int) = (2 : Int) ^ E1074 := by rw [Int.natCast_pow]; rfl
    rw [e] at h1
    exact Int.eq_of_mul_eq_mul_right (Int.ne_of_gt (Int.pow_pos (by decide))) h1
  rw [hs] at hx
  exact hx

/-- float64(n). -/
def fi (n : Int) : Nat := FloatKind.f64.nearest n

theorem fi_FV (n : Int) (h : n.natAbs < 2 ^ 53) : FV (fi n) (n * 2 ^ E1074) := by
  have hx := nearest_exact (decide (n < 0)) n.natAbs 0 (n.natAbs * 2 ^ E1074) (by
    rw [show ((0 : Int) + 1074).toNat = E1074 from rfl, show (-((0 : Int) + 1074)).toNat = 0 from rfl, Nat.pow_zero, Nat.mul_one]) ⟨n.natAbs, E1074, Int.natAbs_natCast _, h, by rw [E_eq]; omega⟩
  have hs : sg (decide (n < 0)) (n.natAbs * 2 ^ E1074) = n * 2 ^ E1074 := by
    rw [sg_mul, Int.natCast_pow]
    congr 1
    unfold sg
    by_cases h1 : n < 0
    · simp only [h1, decide_true, if_true]; omega
    · simp only [h1, decide_false, Bool.false_eq_true, if_false]; omega
  rw [hs] at hx
  exact hx

theorem rep_of (z : Int) (k : Nat) (hz : z.natAbs < 2 ^ 53) (hk : k ≤ 2045) : Rep (z * 2 ^ k) :=
  ⟨z.natAbs, k, by rw [Int.natAbs_mul, Int.natAbs_pow]; rfl, hz, hk⟩

/-- The exact quotient is a double: so it is the quotient. -/
theorem div_FV {a b : Nat} {m n Q : Int} (ha : FV a m) (hb : FV b n) (hn : n ≠ 0) (hQ : m * 2 ^ E1074 = Q * n) (hr : Rep Q) : ∃ r, double.div a b = some r ∧ FV r Q := by
  obtain ⟨s, x, p, hra, rfl⟩ := ha
  obtain ⟨t, y, q, hrb, rfl⟩ := hb
  have hy : y ≠ 0 := by rintro rfl; apply hn; rw [Nat.zero_mul]; exact sg_zero t
  unfold Format.div
  rw [hra, hrb]
  unfold Datum.quotient
  simp only [if_neg hy, Option.map_some]
  refine ⟨_, rfl, ?_⟩
  unfold Format.write
  obtain ⟨c, e, hc, hc53, he⟩ := hr
  -- magnitudes
  have hmag : x * 2 ^ p * 2 ^ E1074 = c * 2 ^ e * (y * 2 ^ q) := by
    have := congrArg Int.natAbs hQ
    rw [Int.natAbs_mul, Int.natAbs_mul, sg_natAbs, sg_natAbs, hc, Int.natAbs_pow, show (2 : Int).natAbs = 2 from rfl] at this
    exact this
  have hsign : sg (s ^^ t) Q.natAbs = Q := by
    have h1 : Q * sg t (y * 2 ^ q) * sg t 1 = sg s (x * 2 ^ p) * 2 ^ E1074 * sg t 1 := by rw [← hQ]
    have hyq : 0 < y * 2 ^ q := Nat.mul_pos (Nat.pos_of_ne_zero hy) (Nat.two_pow_pos q)
    have h2 : sg t (y * 2 ^ q) * sg t 1 = ((y * 2 ^ q : Nat) : Int) := by cases t <;> simp [sg]
    have h3 : sg s (x * 2 ^ p) * 2 ^ E1074 * sg t 1 = sg (s ^^ t) (x * 2 ^ p * 2 ^ E1074) := by
      have e2 : (2 : Int) ^ E1074 = ((2 ^ E1074 : Nat) : Int) := (Int.natCast_pow 2 E1074).symm
      rw [e2, ← sg_mul, ← sg_xor, Nat.mul_one]
    rw [Int.mul_assoc, h2, h3, hmag, ← hc, sg_mul] at h1
    have := Int.eq_of_mul_eq_mul_right (show ((y * 2 ^ q : Nat) : Int) ≠ 0 by omega) h1
    exact this.symm
  obtain ⟨more, hmore⟩ : ∃ more, more = double.fractionBits + 2 + y.log2 - x.log2 := ⟨_, rfl⟩
  rw [← hmore]
  have hfb : double.fractionBits = 52 := rfl
  rw [hfb] at hmore
  by_cases hx0 : x = 0
  · subst hx0
    have hQ0 : c * 2 ^ e = 0 := by
      rw [Nat.zero_mul, Nat.zero_mul] at hmag
      rcases Nat.mul_eq_zero.1 hmag.symm with h | h
      · exact h
      · rcases Nat.mul_eq_zero.1 h with h | h
        · exact absurd h hy
        · have := Nat.two_pow_pos q; omega
    have hm0 : 2 * (0 <<< more / y) + (0 <<< more % y != 0).toNat = 0 := by simp [Nat.zero_shiftLeft]
    rw [hm0]
    have hx := nearest_exact (s ^^ t) 0 ((p : Int) - 1074 - ((q : Int) - 1074) - (more : Int) - 1) Q.natAbs (by rw [hc, hQ0]; simp) ⟨c, e, by rw [← hc]; rfl, hc53, he⟩
    rw [hsign] at hx
    exact hx
  · have hX : y * 2 ^ 53 < x * 2 ^ more := by
      have h1 : 2 ^ x.log2 ≤ x := Nat.log2_self_le hx0
      have h2 : y < 2 ^ (y.log2 + 1) := Nat.lt_log2_self
      have h3 : 2 ^ (y.log2 + 1) * 2 ^ 53 ≤ 2 ^ x.log2 * 2 ^ more := by
        rw [← Nat.pow_add, ← Nat.pow_add]
        exact Nat.pow_le_pow_right (by decide) (by omega)
      have h4 : 2 ^ x.log2 * 2 ^ more ≤ x * 2 ^ more := Nat.mul_le_mul_right _ h1
      have h5 : y * 2 ^ 53 < 2 ^ (y.log2 + 1) * 2 ^ 53 := Nat.mul_lt_mul_of_pos_right h2 (Nat.two_pow_pos 53)
      exact Nat.lt_of_lt_of_le h5 (Nat.le_trans h3 h4)
    have hbig : x * 2 ^ more * 2 ^ (p + E1074) = y * (c * 2 ^ (e + q + more)) := by
      have h1 : x * 2 ^ p * 2 ^ E1074 * 2 ^ more = c * 2 ^ e * (y * 2 ^ q) * 2 ^ more := by rw [hmag]
      simp only [Nat.pow_add]
      simp only [Nat.mul_assoc, Nat.mul_comm, Nat.mul_left_comm] at h1 ⊢
      exact h1
    have hge : p + E1074 ≤ e + q + more := by
      rcases Nat.lt_or_ge (e + q + more) (p + E1074) with h | h
      · exfalso
        obtain ⟨d, hd⟩ : ∃ d, p + E1074 = e + q + more + d := ⟨p + E1074 - (e + q + more), by omega⟩
        have h1 : x * 2 ^ more * 2 ^ d = y * c := by
          have : x * 2 ^ more * 2 ^ d * 2 ^ (e + q + more) = y * c * 2 ^ (e + q + more) := by
            rw [Nat.mul_assoc (x * 2 ^ more), ← Nat.pow_add, show d + (e + q + more) = p + E1074 from by omega, hbig, Nat.mul_assoc]
          exact Nat.eq_of_mul_eq_mul_right (Nat.two_pow_pos _) this
        have h2 : x * 2 ^ more ≤ x * 2 ^ more * 2 ^ d := Nat.le_mul_of_pos_right _ (Nat.two_pow_pos d)
        have h3 : y * c < y * 2 ^ 53 := Nat.mul_lt_mul_of_pos_left hc53 (Nat.pos_of_ne_zero hy)
        omega
      · exact h
    obtain ⟨g, hg⟩ : ∃ g, e + q + more = p + E1074 + g := ⟨e + q + more - (p + E1074), by omega⟩
    have hdiv : x * 2 ^ more = y * (c * 2 ^ g) := by
      have : x * 2 ^ more * 2 ^ (p + E1074) = y * (c * 2 ^ g) * 2 ^ (p + E1074) := by
        rw [hbig, hg, Nat.pow_add _ (p + E1074) g]
        simp only [Nat.mul_assoc, Nat.mul_comm, Nat.mul_left_comm]
      exact Nat.eq_of_mul_eq_mul_right (Nat.two_pow_pos _) this
    have hq1 : x <<< more / y = c * 2 ^ g := by rw [Nat.shiftLeft_eq, hdiv]; exact Nat.mul_div_cancel_left _ (Nat.pos_of_ne_zero hy)
    have hq2 : x <<< more % y = 0 := by rw [Nat.shiftLeft_eq, hdiv]; exact Nat.mul_mod_right _ _
    have hm0 : 2 * (x <<< more / y) + (x <<< more % y != 0).toNat = c * 2 ^ (g + 1) := by
      rw [hq1, hq2, Nat.pow_succ]; simp only [bne_self_eq_false, Bool.toNat_false, Nat.add_zero]
      simp only [Nat.mul_comm, Nat.mul_left_comm]
    rw [hm0]
    have hplace : (g : Int) + 1 + ((p : Int) - 1074 - ((q : Int) - 1074) - (more : Int) - 1 + 1074) = e := by
      have h1 : (E1074 : Int) = 1074 := rfl
      omega
    have hx := nearest_exact (s ^^ t) (c * 2 ^ (g + 1)) ((p : Int) - 1074 - ((q : Int) - 1074) - (more : Int) - 1) Q.natAbs (by
      rw [hc, Nat.mul_assoc, ← Nat.pow_add, Nat.mul_assoc, ← Nat.pow_add]
      exact congrArg (fun k => c * 2 ^ k) (by omega)) ⟨c, e, by rw [← hc]; rfl, hc53, he⟩
    rw [hsign] at hx
    exact hx

theorem order_fi (m n : Int) (hm : m.natAbs < 2 ^ 53) (hn : n.natAbs < 2 ^ 53) : double.order (fi m) (fi n) = some (compare m n) := by
  rw [order_FV (fi_FV m hm) (fi_FV n hn)]
  have e : (2 : Int) ^ E1074 = ((2 ^ E1074 : Nat) : Int) := by rw [Int.natCast_pow]; rfl
  rw [e, compare_scale _ _ _ (Nat.two_pow_pos _)]

end Go.Proofs.YtflaklceejokhaaDoor.flt
