/-
  Contracts: lerp between whole numbers at 64ths; whether a float is whole; the law's own way.
-/
import Derived.Test.YtmmlhbhnnhopdaaMem
import Derived.Test.YtmmlhbhnnhopdaaBetP
import Derived.Laws.FloatArith
import Derived.Laws.Externs
namespace Go.Proofs.Ytmmlhbhnnhopdaa.bet
open Go.ChangeShapes Go.WideShapes Go.ChangeAt Go.RowKit
open Go.Proofs.Ytmmlhbhnnhopdaa.mem Go.Proofs.Ytmmlhbhnnhopdaa.flt Go.Proofs.Ytmmlhbhnnhopdaa.betp
set_option linter.unusedVariables false
set_option linter.unusedSimpArgs false

theorem run_archMax (x y : Nat) (w : World) : (callFunc 47 #[.float .f64 x, .float .f64 y]).run Try.prog w = .ok (.value (.float .f64 (pickBits false .gt x y))) w := by
  refine (run_callFunc_extern (P := Try.prog) (f := 47) Try.func47 (by kernel_rfl) (by kernel_rfl) (by kernel_rfl) (e := Extern.MathDim.pick "math.archMax" false .gt) (by kernel_rfl) _ w).trans ?_
  rfl
theorem run_archMin (x y : Nat) (w : World) : (callFunc 49 #[.float .f64 x, .float .f64 y]).run Try.prog w = .ok (.value (.float .f64 (pickBits true .lt x y))) w := by
  refine (run_callFunc_extern (P := Try.prog) (f := 49) Try.func49 (by kernel_rfl) (by kernel_rfl) (by kernel_rfl) (e := Extern.MathDim.pick "math.archMin" true .lt) (by kernel_rfl) _ w).trans ?_
  rfl
theorem run_archFloor (x : Nat) (s : Bool) (m : Nat) (i : Int) (h : Ieee.double.read x = .number s m i) (w : World) : (callFunc 36 #[.float .f64 x]).run Try.prog w = .ok (.value (.float .f64 (floorBits x))) w := by
  refine (run_callFunc_extern (P := Try.prog) (f := 36) Try.func36 (by kernel_rfl) (by kernel_rfl) (by kernel_rfl) (e := Extern.MathFloor.toIntegral "math.archFloor" .down) (by kernel_rfl) _ w).trans ?_
  change (Sem.run Try.prog (match FloatKind.f64.decode x with
    | .nan s t =>
      if FloatKind.f64.format.quiet t = t then pure (Value.float .f64 x) else do
      let kept ← choose (.extern "math.Floor,Ceil,Trunc,RoundToEven.signallingNaN kept" 2)
      pure (Value.float .f64 (if kept == 1 then x else FloatKind.f64.encode (.nan s (FloatKind.f64.format.quiet t))))
    | d => pure (Value.float .f64 (FloatKind.f64.encode (d.integral .down)))) w).andThen _ = _
  have e1 : FloatKind.f64.decode x = .number s m i := h
  rw [e1]
  simp only [floorBits, h]
  rfl

set_option maxHeartbeats 4000000 in
theorem max_calls (x y : Nat) (w : World) : Calls Try.prog 42 #[.float .f64 x, .float .f64 y] w fun e w' => e = .returned (.float .f64 (pickBits false .gt x y)) ∧ w' = w := by
  go_enter Try.func42, Try.ntmps42
  have h := run_archMax x y
  go_wp2_with fail
  exact bodyPost_ret (by simp [results, go_sem]) rfl ⟨rfl, rfl⟩

set_option maxHeartbeats 4000000 in
theorem min_calls (x y : Nat) (w : World) : Calls Try.prog 43 #[.float .f64 x, .float .f64 y] w fun e w' => e = .returned (.float .f64 (pickBits true .lt x y)) ∧ w' = w := by
  go_enter Try.func43, Try.ntmps43
  have h := run_archMin x y
  go_wp2_with fail
  exact bodyPost_ret (by simp [results, go_sem]) rfl ⟨rfl, rfl⟩

set_option maxHeartbeats 4000000 in
theorem floor_calls (x : Nat) (s : Bool) (m : Nat) (i : Int) (h : Ieee.double.read x = .number s m i) (w : World) : Calls Try.prog 29 #[.float .f64 x] w fun e w' => e = .returned (.float .f64 (floorBits x)) ∧ w' = w := by
  go_enter Try.func29, Try.ntmps29
  have h := run_archFloor x s m i h
  go_wp2_with fail
  exact bodyPost_ret (by simp [results, go_sem]) rfl ⟨rfl, rfl⟩

theorem fi_one : fi 1 = 4607182418800017408 := by kernel_rfl
theorem fi_64 : fi 64 = 4634204016564240384 := by kernel_rfl
theorem fi_zero : fi 0 = 0 := by kernel_rfl
theorem neg_fi : Op.negFloat .f64 (fi 1048576) = fi (-1048576) := by kernel_rfl

/-- 2^1068 -/
def E1068 : Nat := 1068
theorem E_split : (2 : Int) ^ E1074 = 64 * 2 ^ E1068 := by
  rw [show E1074 = 6 + E1068 from rfl, Int.pow_add]; rfl

theorem one_FV : FV 4607182418800017408 (64 * 2 ^ E1068) := by
  have := fi_FV 1 (by decide)
  rw [fi_one, Int.one_mul, E_split] at this
  exact this

theorem w64_FV : FV 4634204016564240384 (64 * 2 ^ E1074) := by
  have := fi_FV 64 (by decide)
  rw [fi_64] at this
  exact this

theorem zero_FV : FV 0 0 := by
  have := fi_FV 0 (by decide)
  rw [fi_zero, Int.zero_mul] at this
  exact this

theorem rep68 (z : Int) (hz : z.natAbs < 2 ^ 53) : Rep (z * 2 ^ E1068) := rep_of z E1068 hz (by decide)
theorem rep74 (z : Int) (hz : z.natAbs < 2 ^ 53) : Rep (z * 2 ^ E1074) := rep_of z E1074 hz (by decide)

theorem cmp68 (x y : Int) : compare (x * 2 ^ E1068) (y * 2 ^ E1068) = compare x y := by
  have e : (2 : Int) ^ E1068 = ((2 ^ E1068 : Nat) : Int) := by rw [Int.natCast_pow]; rfl
  rw [e]; exact compare_scale _ _ _ (Nat.two_pow_pos _)
theorem cmp74 (x y : Int) : compare (x * 2 ^ E1074) (y * 2 ^ E1074) = compare x y := by
  have e : (2 : Int) ^ E1074 = ((2 ^ E1074 : Nat) : Int) := by rw [Int.natCast_pow]; rfl
  rw [e]; exact compare_scale _ _ _ (Nat.two_pow_pos _)

/-- The whole numbers of the law. -/
def Wh (b : Nat) (n : Int) : Prop := FV b (n * 2 ^ E1074) ∧ -1048576 ≤ n ∧ n ≤ 1048576

theorem way_le (A B j : Int) (hA : -1048576 ≤ A ∧ A ≤ 1048576) (hB : -1048576 ≤ B ∧ B ≤ 1048576) (hj : 0 ≤ j ∧ j ≤ 64) :
    (j * B).natAbs ≤ 67108864 ∧ ((64 - j) * A).natAbs ≤ 67108864 ∧ (j * (B - A)).natAbs ≤ 134217728 := by
  have h1 : j.natAbs ≤ 64 := by omega
  have h2 : B.natAbs ≤ 1048576 := by omega
  have h3 : A.natAbs ≤ 1048576 := by omega
  have h4 : (64 - j).natAbs ≤ 64 := by omega
  have h5 : (B - A).natAbs ≤ 2097152 := by omega
  refine ⟨?_, ?_, ?_⟩
  · rw [Int.natAbs_mul]; exact Nat.mul_le_mul h1 h2
  · rw [Int.natAbs_mul]; exact Nat.mul_le_mul h4 h3
  · rw [Int.natAbs_mul]; exact Nat.mul_le_mul h1 h5

theorem p53 : (2 : Nat) ^ 53 = 9007199254740992 := by decide

def cmpI (A B : Int) : Ordering := compare A B
theorem cmp_lt {A B : Int} (h : A < B) : compare A B = .lt := by rw [compare_eq, if_pos h]
theorem cmp_gt {A B : Int} (h : B < A) : compare A B = .gt := by rw [compare_eq, if_neg (by omega), if_neg (by omega)]
theorem cmp_eq {A B : Int} (h : A = B) : compare A B = .eq := by rw [compare_eq, if_neg (by omega), if_pos h]

set_option maxHeartbeats 8000000 in
theorem lerp_calls (a b t : Nat) (A B j : Int) (ha : Wh a A) (hb : Wh b B) (ht : FV t (j * 2 ^ E1068)) (hj : 0 ≤ j ∧ j ≤ 64) :
    ∃ r, FV r ((64 * A + j * (B - A)) * 2 ^ E1068) ∧ ∀ w, Calls Try.prog 38 #[.float .f64 a, .float .f64 b, .float .f64 t] w fun e w' => e = .returned (.float .f64 r) ∧ w' = w := by
  obtain ⟨l1, l2, l3⟩ := way_le A B j ha.2 hb.2 hj
  have hA := ha.2
  have hB := hb.2
  have hsum : j * B + (64 - j) * A = 64 * A + j * (B - A) := by rw [Int.mul_sub, Int.sub_mul]; omega
  obtain ⟨p1, hp1, fp1⟩ := mul_FV (P := j * B * 2 ^ E1068) ht hb.1 (by rw [Int.mul_assoc, Int.mul_assoc, Int.mul_assoc, Int.mul_left_comm (2 ^ E1068) B]) (rep68 _ (by rw [p53]; omega))
  obtain ⟨p2, hp2, fp2⟩ := sub_FV one_FV ht (by rw [← Int.sub_mul]; exact rep68 _ (by rw [p53]; omega))
  rw [← Int.sub_mul] at fp2
  obtain ⟨p3, hp3, fp3⟩ := mul_FV (P := (64 - j) * A * 2 ^ E1068) fp2 ha.1 (by rw [Int.mul_assoc, Int.mul_assoc, Int.mul_assoc, Int.mul_left_comm (2 ^ E1068) A]) (rep68 _ (by rw [p53]; omega))
  obtain ⟨p4, hp4, fp4⟩ := add_FV fp1 fp3 (by rw [← Int.add_mul]; exact rep68 _ (by rw [p53]; omega))
  rw [← Int.add_mul, hsum] at fp4
  obtain ⟨q1, hq1, fq1⟩ := sub_FV hb.1 ha.1 (by rw [← Int.sub_mul]; exact rep74 _ (by rw [p53]; omega))
  rw [← Int.sub_mul] at fq1
  obtain ⟨q2, hq2, fq2⟩ := mul_FV (P := j * (B - A) * 2 ^ E1068) ht fq1 (by rw [Int.mul_assoc, Int.mul_assoc, Int.mul_assoc, Int.mul_left_comm (2 ^ E1068) (B - A)]) (rep68 _ (by rw [p53]; omega))
  have fa : FV a (64 * A * 2 ^ E1068) := by
    have := ha.1
    rw [E_split, ← Int.mul_assoc, Int.mul_comm A 64] at this; exact this
  have fb : FV b (64 * B * 2 ^ E1068) := by
    have := hb.1
    rw [E_split, ← Int.mul_assoc, Int.mul_comm B 64] at this; exact this
  obtain ⟨q3, hq3, fq3⟩ := add_FV fa fq2 (by rw [← Int.add_mul]; exact rep68 _ (by rw [p53]; omega))
  rw [← Int.add_mul] at fq3
  have oa : FloatKind.f64.format.order a 0 = some (compare A 0) := by
    have := order_FV ha.1 zero_FV
    rw [← Int.zero_mul (2 ^ E1074), cmp74] at this; exact this
  have ob : FloatKind.f64.format.order b 0 = some (compare B 0) := by
    have := order_FV hb.1 zero_FV
    rw [← Int.zero_mul (2 ^ E1074), cmp74] at this; exact this
  have oba : FloatKind.f64.format.order b a = some (compare B A) := by
    have := order_FV hb.1 ha.1
    rw [cmp74] at this; exact this
  have ot : FloatKind.f64.format.order t 4607182418800017408 = some (compare j 64) := by
    have := order_FV ht one_FV
    rw [cmp68] at this; exact this
  have r1 := fun w => run_float_arith (P := Try.prog) w .mul 34 .f64 t b p1 hp1
  have r2 := fun w => run_float_arith (P := Try.prog) w .sub 34 .f64 4607182418800017408 t p2 hp2
  have r3 := fun w => run_float_arith (P := Try.prog) w .mul 34 .f64 p2 a p3 hp3
  have r4 := fun w => run_float_arith (P := Try.prog) w .add 34 .f64 p1 p3 p4 hp4
  have r5 := fun w => run_float_arith (P := Try.prog) w .sub 34 .f64 b a q1 hq1
  have r6 := fun w => run_float_arith (P := Try.prog) w .mul 34 .f64 t q1 q2 hq2
  have r7 := fun w => run_float_arith (P := Try.prog) w .add 34 .f64 a q2 q3 hq3
  clear hp1 hp2 hp3 hp4 hq1 hq2 hq3
  have hmax : B ≤ A → FV (pickBits false .gt b q3) ((64 * A + j * (B - A)) * 2 ^ E1068) := by
    intro h
    refine pick_FV _ _ fb fq3 ?_
    rw [cmp68]
    have : (64 - j) * (A - B) ≥ 0 := Int.mul_nonneg (by omega) (by omega)
    have h2 : (64 - j) * (A - B) = 64 * A - 64 * B + j * (B - A) := by rw [Int.sub_mul, Int.mul_sub, Int.mul_sub, Int.mul_sub]; omega
    have h3 : 64 * B ≤ 64 * A + j * (B - A) := by omega
    rw [compare_eq]
    split
    · intro h; cases h
    · split
      · intro h; cases h
      · omega
  have hmin : A ≤ B → FV (pickBits true .lt b q3) ((64 * A + j * (B - A)) * 2 ^ E1068) := by
    intro h
    refine pick_FV _ _ fb fq3 ?_
    rw [cmp68]
    have : (64 - j) * (B - A) ≥ 0 := Int.mul_nonneg (by omega) (by omega)
    have h2 : (64 - j) * (B - A) = 64 * B - 64 * A - j * (B - A) := by rw [Int.sub_mul, Int.mul_sub, Int.mul_sub]
    have h3 : 64 * A + j * (B - A) ≤ 64 * B := by omega
    rw [compare_eq, if_neg (by omega)]
    split <;> (intro h; cases h)
  have hmaxr := max_calls b q3
  have hminr := min_calls b q3
  clear fq3 fa fp1 fp2 fp3 fq1 fq2 l1 l2 l3
  rcases Int.lt_trichotomy A 0 with sA | sA | sA <;> rcases Int.lt_trichotomy B 0 with sB | sB | sB
  all_goals
    first
      | rw [cmp_lt sA] at oa
      | rw [cmp_eq sA] at oa
      | rw [cmp_gt sA] at oa
    first
      | rw [cmp_lt sB] at ob
      | rw [cmp_eq sB] at ob
      | rw [cmp_gt sB] at ob
  case inl.inl =>
    rcases (by omega : j < 64 ∨ j = 64) with j6 | j6
    · rw [cmp_lt j6] at ot
      rcases (by omega : A < B ∨ B ≤ A) with hAB | hAB
      · rw [cmp_gt hAB] at oba
        have hfin := hmin (Int.le_of_lt hAB)
        clear hmax hmin
        refine ⟨_, hfin, fun w => ?_⟩
        go_enter Try.func38, Try.ntmps38
        go_wp2_with fail
        refine (hminr _).mono ?_
        rintro e w1 ⟨rfl, rfl⟩
        go_wp2_with fail
        refine bodyPost_ret (by simp [results, go_sem]) rfl ⟨rfl, rfl⟩
      · have hfin : FV (pickBits false .gt b q3) ((64 * A + j * (B - A)) * 2 ^ E1068) := hmax hAB
        clear hmax hmin
        have hle : FloatKind.f64.format.order b a = some .lt ∨ FloatKind.f64.format.order b a = some .eq := by
          rcases (by omega : B < A ∨ B = A) with h | h
          · left; rw [oba, cmp_lt h]
          · right; rw [oba, cmp_eq h]
        clear oba
        rcases hle with oba | oba
        all_goals
          refine ⟨_, hfin, fun w => ?_⟩
          go_enter Try.func38, Try.ntmps38
          go_wp2_with fail
          refine (hmaxr _).mono ?_
          rintro e w1 ⟨rfl, rfl⟩
          go_wp2_with fail
          refine bodyPost_ret (by simp [results, go_sem]) rfl ⟨rfl, rfl⟩
    · rw [cmp_eq j6] at ot
      have hfin : FV b ((64 * A + j * (B - A)) * 2 ^ E1068) := by
        rw [j6, show 64 * A + 64 * (B - A) = 64 * B by omega]
        exact fb
      clear hmax hmin
      refine ⟨_, hfin, fun w => ?_⟩
      go_enter Try.func38, Try.ntmps38
      go_wp2_with fail
      refine bodyPost_ret (by simp [results, go_sem]) rfl ⟨rfl, rfl⟩
  case inr.inr.inr.inr =>
    rcases (by omega : j < 64 ∨ j = 64) with j6 | j6
    · rw [cmp_lt j6] at ot
      rcases (by omega : A < B ∨ B ≤ A) with hAB | hAB
      · rw [cmp_gt hAB] at oba
        have hfin := hmin (Int.le_of_lt hAB)
        clear hmax hmin
        refine ⟨_, hfin, fun w => ?_⟩
        go_enter Try.func38, Try.ntmps38
        go_wp2_with fail
        refine (hminr _).mono ?_
        rintro e w1 ⟨rfl, rfl⟩
        go_wp2_with fail
        refine bodyPost_ret (by simp [results, go_sem]) rfl ⟨rfl, rfl⟩
      · have hfin : FV (pickBits false .gt b q3) ((64 * A + j * (B - A)) * 2 ^ E1068) := hmax hAB
        clear hmax hmin
        have hle : FloatKind.f64.format.order b a = some .lt ∨ FloatKind.f64.format.order b a = some .eq := by
          rcases (by omega : B < A ∨ B = A) with h | h
          · left; rw [oba, cmp_lt h]
          · right; rw [oba, cmp_eq h]
        clear oba
        rcases hle with oba | oba
        all_goals
          refine ⟨_, hfin, fun w => ?_⟩
          go_enter Try.func38, Try.ntmps38
          go_wp2_with fail
          refine (hmaxr _).mono ?_
          rintro e w1 ⟨rfl, rfl⟩
          go_wp2_with fail
          refine bodyPost_ret (by simp [results, go_sem]) rfl ⟨rfl, rfl⟩
    · rw [cmp_eq j6] at ot
      have hfin : FV b ((64 * A + j * (B - A)) * 2 ^ E1068) := by
        rw [j6, show 64 * A + 64 * (B - A) = 64 * B by omega]
        exact fb
      clear hmax hmin
      refine ⟨_, hfin, fun w => ?_⟩
      go_enter Try.func38, Try.ntmps38
      go_wp2_with fail
      refine bodyPost_ret (by simp [results, go_sem]) rfl ⟨rfl, rfl⟩
  all_goals
    refine ⟨_, fp4, fun w => ?_⟩
    go_enter Try.func38, Try.ntmps38
    go_wp2_with fail
    refine bodyPost_ret (by simp [results, go_sem]) rfl ⟨rfl, rfl⟩
end Go.Proofs.Ytmmlhbhnnhopdaa.bet
