/-
  Doubles that stand for whole numbers: cut down to a whole number; the greater and the lesser of two; on a straight way at 64ths.
-/
import Derived.Test.YtmmlhbhnnhopdaaFlt
import GoSem.Extern.MathFloor
import GoSem.Extern.MathDim
namespace Go.Proofs.Ytmmlhbhnnhopdaa.betp
open Go.Proofs.Ytmmlhbhnnhopdaa.flt Ieee
set_option linter.unusedVariables false
set_option linter.unusedSimpArgs false

theorem read_place {b : Nat} {s : Bool} {m : Nat} {i : Int} (h : double.read b = .number s m i) : ∃ p : Nat, i = (p : Int) - 1074 := by
  unfold Format.read at h
  rw [least_eq] at h
  simp only at h
  split at h
  · cases h; exact ⟨0, rfl⟩
  · split at h
    · cases h; exact ⟨b % double.signWeight / double.binade - 1, by omega⟩
    · split at h <;> cases h

theorem FV_of_read {b : Nat} {s : Bool} {m : Nat} {i : Int} (h : double.read b = .number s m i) : ∃ p : Nat, double.read b = .number s m ((p : Int) - 1074) ∧ FV b (sg s (m * 2 ^ p)) := by
  obtain ⟨p, rfl⟩ := read_place h
  exact ⟨p, h, s, m, p, h, rfl⟩

theorem cut_down_le (s : Bool) (m d M : Nat) (h : m ≤ M * 2 ^ d) : Toward.down.cut s m d ≤ M + 1 := by
  unfold Toward.cut
  have h1 : m / 1 <<< min d (m.log2 + 2) ≤ M := by
    rw [Nat.one_shiftLeft]
    by_cases hd : d ≤ m.log2 + 2
    · rw [Nat.min_eq_left hd]
      exact Nat.div_le_of_le_mul (by rw [Nat.mul_comm]; exact h)
    · rw [Nat.min_eq_right (by omega)]
      rw [Nat.div_eq_of_lt (Nat.lt_of_lt_of_le Nat.lt_log2_self (Nat.pow_le_pow_right (by decide) (by omega)))]
      exact Nat.zero_le _
  have h2 : ∀ x : Bool, x.toNat ≤ 1 := by intro x; cases x <;> decide
  simp only
  have := h2 (s && decide (m % 1 <<< min d (m.log2 + 2) ≠ 0))
  have h3 := h2 (s && m % 1 <<< min d (m.log2 + 2) != 0)
  omega

def floorBits (b : Nat) : Nat := double.write ((double.read b).integral .down)

theorem pow_split (a b : Nat) (h : a ≤ b) : 2 ^ b = 2 ^ (b - a) * 2 ^ a := by rw [← Nat.pow_add, Nat.sub_add_cancel h]

/-- Cut down, a double between -M and M is a whole number. -/
theorem floor_FV {b : Nat} {v : Int} (hb : FV b v) (M : Nat) (hM : M + 1 < 2 ^ 53) (hv : v.natAbs ≤ M * 2 ^ E1074) : ∃ K : Int, FV (floorBits b) (K * 2 ^ E1074) := by
  obtain ⟨s, m, p, hr, rfl⟩ := hb
  rw [sg_natAbs] at hv
  unfold floorBits
  rw [hr]
  simp only [Datum.integral, Format.write]
  have hK : Toward.down.cut s (m <<< ((p : Int) - 1074).toNat) (-((p : Int) - 1074)).toNat ≤ M + 1 := by
    apply cut_down_le
    rw [Nat.shiftLeft_eq]
    by_cases hp : 1074 ≤ p
    · rw [show ((p : Int) - 1074).toNat = p - E1074 by rw [E_eq]; omega, show (-((p : Int) - 1074)).toNat = 0 by omega, Nat.pow_zero, Nat.mul_one]
      rw [pow_split E1074 p (by rw [E_eq]; exact hp), ← Nat.mul_assoc] at hv
      exact Nat.le_of_mul_le_mul_right hv (Nat.two_pow_pos _)
    · rw [show ((p : Int) - 1074).toNat = 0 by omega, show (-((p : Int) - 1074)).toNat = E1074 - p by rw [E_eq]; omega, Nat.pow_zero, Nat.mul_one]
      rw [pow_split p E1074 (by rw [E_eq]; omega), ← Nat.mul_assoc] at hv
      exact Nat.le_of_mul_le_mul_right hv (Nat.two_pow_pos _)
  generalize Toward.down.cut s (m <<< ((p : Int) - 1074).toNat) (-((p : Int) - 1074)).toNat = K at hK ⊢
  refine ⟨sg s K, ?_⟩
  have hx := nearest_exact s K 0 (K * 2 ^ E1074) (by
    rw [show ((0 : Int) + 1074).toNat = E1074 from rfl, show (-((0 : Int) + 1074)).toNat = 0 from rfl, Nat.pow_zero, Nat.mul_one]) ⟨K, E1074, Int.natAbs_natCast _, by omega, by rw [E_eq]; omega⟩
  rw [sg_mul, Int.natCast_pow] at hx
  exact hx

/-- The greater and the lesser of two, as the model's entries pick them. -/
def pickBits (neg : Bool) (win : Ordering) (x y : Nat) : Nat :=
  let a := double.read x
  let b := double.read y
  if a == .infinity neg || b == .infinity neg then double.write (.infinity neg)
  else if a.isNaN || b.isNaN then 0x7FF8000000000001
  else if a.isZero && b.isZero then (if a.neg == neg then x else y)
  else if a.order b == some win then x else y

theorem pick_FV (neg : Bool) (win : Ordering) {x y : Nat} {m n : Int} (hx : FV x m) (hy : FV y n) (hw : compare m n ≠ win) : FV (pickBits neg win x y) n := by
  have ho := order_FV hx hy
  obtain ⟨s, a, p, hra, rfl⟩ := hx
  obtain ⟨t, c, q, hrb, hn⟩ := hy
  unfold Format.order at ho
  unfold pickBits
  rw [hra, hrb] at ho ⊢
  have hyy : FV y n := ⟨t, c, q, hrb, hn⟩
  have e1 : (Datum.number s a ((p : Int) - 1074) == Datum.infinity neg) = false := by
    rw [beq_eq_false_iff_ne]; intro h; cases h
  have e2 : (Datum.number t c ((q : Int) - 1074) == Datum.infinity neg) = false := by
    rw [beq_eq_false_iff_ne]; intro h; cases h
  have e3 : (some (compare (sg s (a * 2 ^ p)) n) == some win) = false := by
    rw [beq_eq_false_iff_ne]; intro h; exact hw (Option.some.inj h)
  simp only [e1, e2, Bool.or_false, Bool.false_eq_true, if_false]
  rw [ho, e3]
  simp only [Datum.isNaN, Bool.or_false, Bool.false_eq_true, if_false]
  by_cases hz : (Datum.number s a ((p : Int) - 1074)).isZero = true ∧ (Datum.number t c ((q : Int) - 1074)).isZero = true
  · have h0 : a = 0 := by
      have := hz.1
      cases a with
      | zero => rfl
      | succ k => simp [Datum.isZero] at this
    have h1 : c = 0 := by
      have := hz.2
      cases c with
      | zero => rfl
      | succ k => simp [Datum.isZero] at this
    rw [if_pos (by rw [hz.1, hz.2]; rfl)]
    split
    · refine ⟨s, a, p, hra, ?_⟩
      rw [hn, h0, h1, Nat.zero_mul, Nat.zero_mul, sg_zero, sg_zero]
    · exact hyy
  · rw [if_neg (by
      intro h
      rw [Bool.and_eq_true] at h
      exact hz h)]
    exact hyy
end Go.Proofs.Ytmmlhbhnnhopdaa.betp
