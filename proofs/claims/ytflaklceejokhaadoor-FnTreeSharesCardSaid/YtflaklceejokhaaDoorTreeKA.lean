/-
  The laws' own conditions: whole numbers, good boxes.
-/
import Derived.Test.YtflaklceejokhaaDoorTreeD
import Derived.BigQuiet
namespace Go.Proofs.YtflaklceejokhaaDoor.tree
open Go.ChangeShapes Go.WideShapes Go.ChangeAt Go.RowKit
open Go.Proofs.YtflaklceejokhaaDoor.mem Go.Proofs.YtflaklceejokhaaDoor.flt Ieee
set_option linter.unusedVariables false
set_option linter.unusedSimpArgs false

theorem cut_zero_le (s : Bool) (m d M : Nat) (h : m ≤ M * 2 ^ d) : Toward.zero.cut s m d ≤ M + 1 := by
  unfold Toward.cut
  have h1 : m / 1 <<< min d (m.log2 + 2) ≤ M := by
    rw [Nat.one_shiftLeft]
    by_cases hd : d ≤ m.log2 + 2
    · rw [Nat.min_eq_left hd]
      exact Nat.div_le_of_le_mul (by rw [Nat.mul_comm]; exact h)
    · rw [Nat.min_eq_right (by omega)]
      rw [Nat.div_eq_of_lt (Nat.lt_of_lt_of_le Nat.lt_log2_self (Nat.pow_le_pow_right (by decide) (by omega)))]
      exact Nat.zero_le _
  simp only [Bool.toNat_false]
  omega
theorem pow_split' (a b : Nat) (h : a ≤ b) : 2 ^ b = 2 ^ (b - a) * 2 ^ a := by rw [← Nat.pow_add, Nat.sub_add_cancel h]
/-- Cut towards zero, a double between -M and M is a whole number about as great. -/
theorem toInt_FV {b : Nat} {v : Int} (hb : FV b v) (M : Nat) (hv : v.natAbs ≤ M * 2 ^ E1074) : ∃ K : Int, (double.read b).toInt .zero = some K ∧ K.natAbs ≤ M + 1 := by
  obtain ⟨s, m, p, hr, rfl⟩ := hb
  rw [sg_natAbs] at hv
  rw [hr]
  simp only [Datum.toInt, Datum.integral]
  have hK : Toward.zero.cut s (m <<< ((p : Int) - 1074).toNat) (-((p : Int) - 1074)).toNat ≤ M + 1 := by
    apply cut_zero_le
    rw [Nat.shiftLeft_eq]
    by_cases hp : 1074 ≤ p
    · rw [show ((p : Int) - 1074).toNat = p - E1074 by rw [E_eq]; omega, show (-((p : Int) - 1074)).toNat = 0 by omega, Nat.pow_zero, Nat.mul_one]
      rw [pow_split' E1074 p (by rw [E_eq]; exact hp), ← Nat.mul_assoc] at hv
      exact Nat.le_of_mul_le_mul_right hv (Nat.two_pow_pos _)
    · rw [show ((p : Int) - 1074).toNat = 0 by omega, show (-((p : Int) - 1074)).toNat = E1074 - p by rw [E_eq]; omega, Nat.pow_zero, Nat.mul_one]
      rw [pow_split' p E1074 (by rw [E_eq]; omega), ← Nat.mul_assoc] at hv
      exact Nat.le_of_mul_le_mul_right hv (Nat.two_pow_pos _)
  refine ⟨_, rfl, ?_⟩
  rw [signed_eq, Nat.pow_zero, Nat.mul_one, sg_natAbs]
  exact hK

theorem order_fin {b c : Nat} {v n : Int} (hb : FV b v) (hc : FV c n) {o : Ordering} (h : FloatKind.f64.format.order b c = some o) : compare v n = o := by
  have := order_FV hb hc
  exact Option.some.inj (this.symm.trans h)
theorem FV_of_fin {b : Nat} {lo hi : Nat} {L H : Int} (hL : FV lo L) (hH : FV hi H) {o1 o2 : Ordering} (h1 : FloatKind.f64.format.order b lo = some o1) (h2 : FloatKind.f64.format.order b hi = some o2) (n1 : o1 ≠ .lt) (n2 : o2 ≠ .gt) : ∃ v, FV b v := by
  obtain ⟨s, x, p, hra, _⟩ := hL
  obtain ⟨t, y, q, hrb, _⟩ := hH
  have g1 : (Ieee.double.read b).order (Ieee.double.read lo) = some o1 := h1
  have g2 : (Ieee.double.read b).order (Ieee.double.read hi) = some o2 := h2
  rw [hra] at g1
  rw [hrb] at g2
  cases hr : Ieee.double.read b with
  | number s m i =>
    have hp : ∃ p : Nat, i = (p : Int) - 1074 := by
      unfold Format.read at hr
      rw [least_eq] at hr
      simp only at hr
      split at hr
      · cases hr; exact ⟨0, rfl⟩
      · split at hr
        · cases hr; exact ⟨b % double.signWeight / double.binade - 1, by omega⟩
        · split at hr <;> cases hr
    obtain ⟨p, rfl⟩ := hp
    exact ⟨_, s, m, p, hr, rfl⟩
  | infinity s =>
    rw [hr] at g1 g2
    cases s
    · cases g2; exact absurd rfl n2
    · cases g1; exact absurd rfl n1
  | nan s t => rw [hr] at g1; cases g1

def lo20 : Nat := 13920626448202203136
def hi20 : Nat := 4697254411347427328
theorem lo20_eq : fi (-1048576) = lo20 := by kernel_rfl
theorem hi20_eq : fi 1048576 = hi20 := by kernel_rfl

/-- A number between the ends is cut to a whole one; if it is that one, it is whole. -/
theorem whole_of {b : Nat} {o1 o2 : Ordering} (h1 : FloatKind.f64.format.order b lo20 = some o1) (h2 : FloatKind.f64.format.order b hi20 = some o2) (n1 : o1 ≠ .lt) (n2 : o2 ≠ .gt) :
    ∃ K : Int, floatToIntVal .f64 b .i64 = some K ∧ (FloatKind.f64.format.order b (floatOfInt .f64 K) = some .eq → ∃ z, Wz b z 1048576) := by
  have fL := fi_FV (-1048576) (by decide)
  have fH := fi_FV 1048576 (by decide)
  rw [lo20_eq] at fL
  rw [hi20_eq] at fH
  obtain ⟨v, hb⟩ := FV_of_fin fL fH h1 h2 n1 n2
  have c1 := order_fin hb fL h1
  have c2 := order_fin hb fH h2
  have pos : (0 : Int) < 2 ^ E1074 := Int.pow_pos (by decide)
  have e : (2 : Int) ^ E1074 = ((2 ^ E1074 : Nat) : Int) := by rw [Int.natCast_pow]; rfl
  have lo : -1048576 * 2 ^ E1074 ≤ v := by
    rw [compare_eq] at c1
    split at c1
    · exact absurd c1.symm n1
    · omega
  have hi : v ≤ 1048576 * 2 ^ E1074 := by
    rw [compare_eq] at c2
    split at c2
    · omega
    · split at c2
      · omega
      · exact absurd c2.symm n2
  have hv : v.natAbs ≤ 1048576 * 2 ^ E1074 := by
    rw [e] at lo hi
    generalize 2 ^ E1074 = D at lo hi ⊢
    omega
  obtain ⟨K, hK, hKa⟩ := toInt_FV hb 1048576 hv
  refine ⟨K, ?_, fun he => ?_⟩
  · unfold floatToIntVal
    have hK2 : (FloatKind.f64.decode b).toInt .zero = some K := hK
    rw [hK2]
    simp only
    rw [if_pos (by show (-9223372036854775808 : Int) ≤ K ∧ K ≤ 9223372036854775807; omega)]
  · have hF := fi_FV K (Nat.lt_of_le_of_lt hKa (by decide))
    have := order_fin hb hF he
    have hvK : v = K * 2 ^ E1074 := by
      rw [compare_eq] at this
      split at this
      · cases this
      · split at this
        · assumption
        · cases this
    subst hvK
    refine ⟨K, hb, ?_⟩
    rw [e, Int.natAbs_mul, Int.natAbs_natCast] at hv
    exact Nat.le_of_mul_le_mul_right hv (Nat.two_pow_pos _)

theorem ord_cases (o : Option Ordering) : o = none ∨ o = some .lt ∨ o = some .eq ∨ o = some .gt := by
  match o with
  | none => exact .inl rfl
  | some .lt => exact .inr (.inl rfl)
  | some .eq => exact .inr (.inr (.inl rfl))
  | some .gt => exact .inr (.inr (.inr rfl))

set_option maxHeartbeats 4000000 in
theorem kWhole_calls (b : Nat) (w : World) : Calls Tryd.prog 15 #[.float .f64 b] w fun e w' => ∃ t, e = .returned (.bool t) ∧ (t = true → ∃ z, Wz b z 1048576) ∧ w' = w := by
  obtain ⟨o1, h1⟩ : ∃ o, FloatKind.f64.format.order b 13920626448202203136 = o := ⟨_, rfl⟩
  obtain ⟨o2, h2⟩ : ∃ o, FloatKind.f64.format.order b 4697254411347427328 = o := ⟨_, rfl⟩
  have hw := fun o1 o2 h1 h2 => @whole_of b o1 o2 h1 h2
  unfold lo20 hi20 at hw
  rcases ord_cases o1 with e1 | e1 | e1 | e1 <;> rw [e1] at h1
  case inl =>
    go_enter Tryd.func15, Tryd.ntmps15
    go_wp2_with fail
    exact bodyPost_ret (v := .bool false) (by simp [results, go_sem]) rfl ⟨_, rfl, (fun h => by cases h), rfl⟩
  case inr.inl =>
    go_enter Tryd.func15, Tryd.ntmps15
    go_wp2_with fail
    exact bodyPost_ret (v := .bool false) (by simp [results, go_sem]) rfl ⟨_, rfl, (fun h => by cases h), rfl⟩
  all_goals rcases ord_cases o2 with e2 | e2 | e2 | e2 <;> rw [e2] at h2
  case inr.inr.inl.inl =>
    go_enter Tryd.func15, Tryd.ntmps15
    go_wp2_with fail
    exact bodyPost_ret (v := .bool false) (by simp [results, go_sem]) rfl ⟨_, rfl, (fun h => by cases h), rfl⟩
  case inr.inr.inl.inr.inr.inr =>
    go_enter Tryd.func15, Tryd.ntmps15
    go_wp2_with fail
    exact bodyPost_ret (v := .bool false) (by simp [results, go_sem]) rfl ⟨_, rfl, (fun h => by cases h), rfl⟩
  case inr.inr.inr.inl =>
    go_enter Tryd.func15, Tryd.ntmps15
    go_wp2_with fail
    exact bodyPost_ret (v := .bool false) (by simp [results, go_sem]) rfl ⟨_, rfl, (fun h => by cases h), rfl⟩
  case inr.inr.inr.inr.inr.inr =>
    go_enter Tryd.func15, Tryd.ntmps15
    go_wp2_with fail
    exact bodyPost_ret (v := .bool false) (by simp [results, go_sem]) rfl ⟨_, rfl, (fun h => by cases h), rfl⟩
  all_goals
    obtain ⟨K, hK, hz⟩ := hw _ _ h1 h2 (by decide) (by decide)
    have hcv := fun w => run_convert_float_int (P := Tryd.prog) (w := w) 30 3 .f64 .i64 b K (by kernel_rfl) Tryd.underlying3 hK
    obtain ⟨o3, h3⟩ : ∃ o, FloatKind.f64.format.order b (floatOfInt .f64 K) = o := ⟨_, rfl⟩
    obtain ⟨t, ht⟩ : ∃ t, t = (o3 == some .eq) := ⟨_, rfl⟩
    have HZ := Lib.hid hz
    have HT := Lib.hid ht
    clear hw hK hz ht
    go_enter Tryd.func15, Tryd.ntmps15
    go_wp2_with fail
    rw [← HT.out]
    exact bodyPost_ret (v := .bool t) (by simp [results, go_sem]) rfl ⟨_, rfl, (fun h => HZ.out (by rw [h3]; have := HT.out; rw [h] at this; simpa using this.symm)), rfl⟩
end Go.Proofs.YtflaklceejokhaaDoor.tree
