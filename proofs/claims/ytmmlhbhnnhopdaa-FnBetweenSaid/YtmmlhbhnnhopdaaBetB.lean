/-
  Contracts: the law's own way; whether a float is whole; the conversions.
-/
import Derived.Test.YtmmlhbhnnhopdaaBetA
namespace Go.Proofs.Ytmmlhbhnnhopdaa.bet
open Go.ChangeShapes Go.WideShapes Go.ChangeAt Go.RowKit
open Go.Proofs.Ytmmlhbhnnhopdaa.mem Go.Proofs.Ytmmlhbhnnhopdaa.flt Go.Proofs.Ytmmlhbhnnhopdaa.betp
set_option linter.unusedVariables false
set_option linter.unusedSimpArgs false

theorem mul_shuffle (z D E : Int) (h : D = 64 * E) : z * D * D = z * E * (64 * D) := by
  have : D * D = E * (64 * D) := by
    rw [← Int.mul_assoc E 64 D, Int.mul_comm E 64, ← h]
  rw [Int.mul_assoc, Int.mul_assoc, this]
theorem div64 (z : Int) : z * 2 ^ E1074 * 2 ^ E1074 = z * 2 ^ E1068 * (64 * 2 ^ E1074) := mul_shuffle _ _ _ E_split

set_option maxHeartbeats 4000000 in
theorem at_calls (x y P : Nat) (X Y j : Int) (hx : Wh x X) (hy : Wh y Y) (hj : 0 ≤ j ∧ j ≤ 64) :
    ∃ r, FV r ((64 * X + j * (Y - X)) * 2 ^ E1068) ∧ ∀ (w : World), w.cell? ⟨P, 0, none⟩ = some (.int .i64 j) → Calls Try.prog 11 #[.float .f64 x, .float .f64 y, .pointer (some ⟨P, 0, none⟩)] w fun e w' => e = .returned (.float .f64 r) ∧ w' = w := by
  obtain ⟨l1, l2, l3⟩ := way_le X Y j hx.2 hy.2 hj
  have hX := hx.2
  have hY := hy.2
  obtain ⟨p1, hp1, fp1⟩ := mul_FV (P := 64 * X * 2 ^ E1074) w64_FV hx.1 (by rw [Int.mul_assoc, Int.mul_assoc, Int.mul_assoc, Int.mul_left_comm (2 ^ E1074) X]) (rep74 _ (by rw [p53]; omega))
  have fj := fi_FV j (by rw [p53]; omega)
  obtain ⟨q1, hq1, fq1⟩ := sub_FV hy.1 hx.1 (by rw [← Int.sub_mul]; exact rep74 _ (by rw [p53]; omega))
  rw [← Int.sub_mul] at fq1
  obtain ⟨q2, hq2, fq2⟩ := mul_FV (P := j * (Y - X) * 2 ^ E1074) fj fq1 (by rw [Int.mul_assoc, Int.mul_assoc, Int.mul_assoc, Int.mul_left_comm (2 ^ E1074) (Y - X)]) (rep74 _ (by rw [p53]; omega))
  obtain ⟨q3, hq3, fq3⟩ := add_FV fp1 fq2 (by rw [← Int.add_mul]; exact rep74 _ (by rw [p53]; omega))
  rw [← Int.add_mul] at fq3
  obtain ⟨q4, hq4, fq4⟩ := div_FV (Q := (64 * X + j * (Y - X)) * 2 ^ E1068) fq3 w64_FV (Int.mul_ne_zero (by decide) (Int.ne_of_gt (Int.pow_pos (by decide)))) (div64 _) (rep68 _ (by rw [p53]; omega))
  have r1 := fun w => run_float_arith (P := Try.prog) w .mul 34 .f64 4634204016564240384 x p1 hp1
  have r2 := fun w => run_float_arith (P := Try.prog) w .sub 34 .f64 y x q1 hq1
  have r3 := fun w => run_float_arith (P := Try.prog) w .mul 34 .f64 (floatOfInt .f64 j) q1 q2 hq2
  have r4 := fun w => run_float_arith (P := Try.prog) w .add 34 .f64 p1 q2 q3 hq3
  have r5 := fun w => run_float_arith (P := Try.prog) w .quo 34 .f64 q3 4634204016564240384 q4 hq4
  clear hp1 hq1 hq2 hq3 hq4 fp1 fj fq1 fq2 fq3
  refine ⟨_, fq4, fun w hc => ?_⟩
  go_enter Try.func11, Try.ntmps11
  go_wp2_with fail
  exact bodyPost_ret (v := .float .f64 q4) (by simp [results, go_sem]) rfl ⟨rfl, rfl⟩

theorem ord_cases (o : Option Ordering) : o = none ∨ o = some .lt ∨ o = some .eq ∨ o = some .gt := by
  match o with
  | none => exact .inl rfl
  | some .lt => exact .inr (.inl rfl)
  | some .eq => exact .inr (.inr (.inl rfl))
  | some .gt => exact .inr (.inr (.inr rfl))

theorem order_fin {b c : Nat} {v n : Int} (hb : FV b v) (hc : FV c n) {o : Ordering} (h : FloatKind.f64.format.order b c = some o) : compare v n = o := by
  have := order_FV hb hc
  exact Option.some.inj (this.symm.trans h)

/-- Who is neither below the one nor above the other is finite. -/
theorem fin_of_orders {b lo hi : Nat} {L H : Int} (hL : FV lo L) (hH : FV hi H) {o1 o2 : Ordering} (h1 : FloatKind.f64.format.order b lo = some o1) (h2 : FloatKind.f64.format.order b hi = some o2) (n1 : o1 ≠ .lt) (n2 : o2 ≠ .gt) :
    ∃ s m i, Ieee.double.read b = .number s m i := by
  obtain ⟨s, x, p, hra, _⟩ := hL
  obtain ⟨t, y, q, hrb, _⟩ := hH
  have g1 : (Ieee.double.read b).order (Ieee.double.read lo) = some o1 := h1
  have g2 : (Ieee.double.read b).order (Ieee.double.read hi) = some o2 := h2
  rw [hra] at g1
  rw [hrb] at g2
  cases hr : Ieee.double.read b with
  | number s m i => exact ⟨s, m, i, rfl⟩
  | infinity s =>
    rw [hr] at g1 g2
    cases s
    · cases g2; exact absurd rfl n2
    · cases g1; exact absurd rfl n1
  | nan s t => rw [hr] at g1; cases g1

theorem whole_of {b : Nat} {o1 o2 : Ordering} (h1 : FloatKind.f64.format.order b (fi (-1048576)) = some o1) (h2 : FloatKind.f64.format.order b (fi 1048576) = some o2) (n1 : o1 ≠ .lt) (n2 : o2 ≠ .gt) :
    (∃ s m i, Ieee.double.read b = .number s m i) ∧ (FloatKind.f64.format.order (floorBits b) b = some .eq → ∃ n, Wh b n) := by
  have fL := fi_FV (-1048576) (by decide)
  have fH := fi_FV 1048576 (by decide)
  obtain ⟨s, m, i, hr⟩ := fin_of_orders fL fH h1 h2 n1 n2
  refine ⟨⟨s, m, i, hr⟩, fun he => ?_⟩
  obtain ⟨p, _, hb⟩ := FV_of_read hr
  generalize sg s (m * 2 ^ p) = v at hb
  have c1 := order_fin hb fL h1
  have c2 := order_fin hb fH h2
  have pos : (0 : Int) < 2 ^ E1074 := Int.pow_pos (by decide)
  have e : (2 : Int) ^ E1074 = ((2 ^ E1074 : Nat) : Int) := by rw [Int.natCast_pow]; rfl
  have lo : -1048576 * 2 ^ E1074 ≤ v := by
    rw [compare_eq] at c1
    split at c1
    · exact absurd c1.symm n1
    · omega
  have hi : v ≤ 1048576 * 2 ^ E1074 := by
    rw [compare_eq] at c2
    split at c2
    · omega
    · split at c2
      · omega
      · exact absurd c2.symm n2
  obtain ⟨K, hK⟩ := floor_FV hb 1048576 (by decide) (by
    rw [e] at lo hi
    generalize 2 ^ E1074 = D at lo hi ⊢
    omega)
  have hv : v = K * 2 ^ E1074 := by
    have := order_fin hK hb he
    rw [compare_eq] at this
    split at this
    · cases this
    · split at this
      · omega
      · cases this
  subst hv
  exact ⟨K, hb, Int.le_of_mul_le_mul_right lo pos, Int.le_of_mul_le_mul_right hi pos⟩

set_option maxHeartbeats 4000000 in
theorem whole_calls (b : Nat) (w : World) :
    Calls Try.prog 18 #[.float .f64 b, .int .i64 1048576] w fun e w' => ∃ t, e = .returned (.bool t) ∧ (t = true → ∃ n, Wh b n) ∧ w' = w := by
  have hneg : ∀ w, (Op.unary .neg (.float .f64 (floatOfInt .f64 1048576))).run Try.prog w = .ok (.float .f64 (floatOfInt .f64 (-1048576))) w := fun w => by
    show Result.ok (Value.float .f64 (Op.negFloat .f64 (fi 1048576))) w = .ok (.float .f64 (fi (-1048576))) w
    rw [neg_fi]
  obtain ⟨o1, h1⟩ : ∃ o, FloatKind.f64.format.order b (floatOfInt .f64 (-1048576)) = o := ⟨_, rfl⟩
  obtain ⟨o2, h2⟩ : ∃ o, FloatKind.f64.format.order b (floatOfInt .f64 1048576) = o := ⟨_, rfl⟩
  obtain ⟨o3, h3⟩ : ∃ o, FloatKind.f64.format.order (floorBits b) b = o := ⟨_, rfl⟩
  have hw := fun o1 o2 h1 h2 => @whole_of b o1 o2 h1 h2
  rcases ord_cases o1 with e1 | e1 | e1 | e1 <;> rw [e1] at h1
  case inl =>
    go_enter Try.func18, Try.ntmps18
    go_wp2_with fail
    exact bodyPost_ret (v := .bool false) (by simp [results, go_sem]) rfl ⟨_, rfl, (fun h => by cases h), rfl⟩
  case inr.inl =>
    go_enter Try.func18, Try.ntmps18
    go_wp2_with fail
    exact bodyPost_ret (v := .bool false) (by simp [results, go_sem]) rfl ⟨_, rfl, (fun h => by cases h), rfl⟩
  all_goals rcases ord_cases o2 with e2 | e2 | e2 | e2 <;> rw [e2] at h2
  case inr.inr.inl.inl =>
    go_enter Try.func18, Try.ntmps18
    go_wp2_with fail
    exact bodyPost_ret (v := .bool false) (by simp [results, go_sem]) rfl ⟨_, rfl, (fun h => by cases h), rfl⟩
  case inr.inr.inl.inr.inr.inr =>
    go_enter Try.func18, Try.ntmps18
    go_wp2_with fail
    exact bodyPost_ret (v := .bool false) (by simp [results, go_sem]) rfl ⟨_, rfl, (fun h => by cases h), rfl⟩
  case inr.inr.inr.inl =>
    go_enter Try.func18, Try.ntmps18
    go_wp2_with fail
    exact bodyPost_ret (v := .bool false) (by simp [results, go_sem]) rfl ⟨_, rfl, (fun h => by cases h), rfl⟩
  case inr.inr.inr.inr.inr.inr =>
    go_enter Try.func18, Try.ntmps18
    go_wp2_with fail
    exact bodyPost_ret (v := .bool false) (by simp [results, go_sem]) rfl ⟨_, rfl, (fun h => by cases h), rfl⟩
  all_goals
    obtain ⟨⟨s, m, i, hr⟩, hwh⟩ := hw _ _ h1 h2 (by decide) (by decide)
    have hfl := floor_calls b s m i hr
    clear hw
    rw [h3] at hwh
    go_enter Try.func18, Try.ntmps18
    go_wp2_with fail
    refine (hfl _).mono ?_
    rintro e w1 ⟨rfl, rfl⟩
    go_wp2_with fail
    exact bodyPost_ret (v := .bool (o3 == some .eq)) (by simp [results, go_sem]) rfl ⟨_, rfl, (fun h => hwh (by simpa using h)), rfl⟩
end Go.Proofs.Ytmmlhbhnnhopdaa.bet
