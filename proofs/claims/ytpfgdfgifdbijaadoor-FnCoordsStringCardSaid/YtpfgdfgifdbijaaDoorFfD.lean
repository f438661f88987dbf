/-
  Contract: the shortest decimal of a number: its digits as a number, and its exponent.
-/
import Derived.Test.YtpfgdfgifdbijaaDoorFfC
import Derived.Laws.Bits64
namespace Go.Proofs.YtpfgdfgifdbijaaDoor.ff
open Go.ChangeShapes Go.WideShapes Go.ChangeAt Go.RowKit
open Go.Proofs.YtpfgdfgifdbijaaDoor.mem
set_option linter.unusedVariables false
set_option linter.unusedSimpArgs false

theorem uscale_fn : ∃ US : Int → Int → Int → Int → Int, ∀ (x hi lo s : Int) (w : World) (B : Nat), Blk w B 100 #[.int .u64 hi, .int .u64 lo, .int .i64 s] → Calls Tryd.prog 56 #[.int .u64 x, .pointer (some ⟨B, 0, none⟩)] w fun e w' => e = .returned (.int .u64 (US x hi lo s)) ∧ Below w.heap.size w w' :=
  ⟨fun x hi lo s => Classical.choose (uscale_calls x hi lo s), fun x hi lo s => Classical.choose_spec (uscale_calls x hi lo s)⟩
theorem nudge_fn : ∃ NG : Int → Int → Int, ∀ (u n : Int) (w : World), Calls Tryd.prog 57 #[.int .u64 u, .int .i64 n] w (Same w (.int .u64 (NG u n))) :=
  ⟨fun u n => Classical.choose (nudge_calls u n), fun u n => Classical.choose_spec (nudge_calls u n)⟩
theorem round_fn : ∃ RN : Int → Int, ∀ (u : Int) (w : World), Calls Tryd.prog 60 #[.int .u64 u] w (Same w (.int .u64 (IntKind.u64.wrap (RN u) / 4))) :=
  ⟨fun u => Classical.choose (round_calls u), fun u => Classical.choose_spec (round_calls u)⟩
theorem q_range (u : Int) : 0 ≤ IntKind.u64.wrap u / 4 ∧ IntKind.u64.wrap u / 4 < 4611686018427387904 := by rw [IntKind.wrap_u64]; omega
theorem q_nonneg (u : Int) : 0 ≤ IntKind.u64.wrap u / 4 := (q_range u).1
theorem q_div {x : Int} (h : 0 ≤ x ∧ x < 4611686018427387904) : IntKind.u64.wrap (x.tdiv 10) = x / 10 := by
  rw [Int.tdiv_eq_ediv_of_nonneg h.1, IntKind.wrap_u64]; omega
theorem q_mul {x : Int} (h : 0 ≤ x ∧ x < 4611686018427387904) : IntKind.u64.wrap (x / 10 * 10) = x / 10 * 10 := by
  rw [IntKind.wrap_u64]; omega
/-- Digits as a number, an exponent. -/
def SFPost (w : World) (d p : Int) (e : Ending) (w' : World) : Prop := e = .returned (.tuple #[.int .u64 d, .int .i64 p]) ∧ Below w.heap.size w w'
set_option maxHeartbeats 4000000 in
set_option maxRecDepth 100000 in
theorem short1 (T : Nat → Int) (m e : Int) (he : -1200 ≤ e ∧ e ≤ 1000) (hm : m = 9223372036854775808) (hE : -1085 < e) : ∃ d p : Int, (0 ≤ d ∧ d < 4611686018427387904 ∧ -400 ≤ p ∧ p ≤ 400) ∧ ∀ w, Tab T w → Calls Tryd.prog 47 #[.int .u64 m, .int .i64 e] w (SFPost w d p) := by
  subst hm
  obtain ⟨US, HUS⟩ := uscale_fn
  obtain ⟨NG, HNG⟩ := nudge_fn
  obtain ⟨RN, HRN⟩ := round_fn
  have HUS := Lib.hid HUS
  have HNG := Lib.hid HNG
  have HRN := Lib.hid HRN
  obtain ⟨P, hP⟩ : ∃ P : Int, P = -(((e + 11) * 631305 - 261663) / 2097152) := ⟨_, rfl⟩
  have hPb : -320 ≤ P ∧ P ≤ 340 := by omega
  obtain ⟨i, hi⟩ : ∃ i : Nat, (i : Int) - 348 = P := ⟨(P + 348).toNat, by omega⟩
  have HL := Lib.hid (show ∀ w, Calls Tryd.prog 53 #[.int .i64 (e + 11)] w (Same w (.int .i64 (-P))) from fun w => by rw [hP, Int.neg_neg]; exact skewed_calls (e + 11) (by omega) w)
  have q1 : wrap64 (e + 11) = e + 11 := by rw [wrap64]; omega
  have q2 : wrap64 (-(-P)) = P := by rw [wrap64]; omega
  have q3 : wrap64 P = P := by rw [wrap64]; omega
  have q4 : wrap64 (P - 1) = P - 1 := by rw [wrap64]; omega
  have q5 : wrap64 (-(P - 1)) = -(P - 1) := by rw [wrap64]; omega
  have q6 : wrap64 (-P) = -P := by rw [wrap64]; omega
  obtain ⟨lp, hlp⟩ : ∃ lp : Int, lp = P * 108853 / 32768 := ⟨_, rfl⟩
  have hlpb : -100000 ≤ lp ∧ lp ≤ 100000 := by omega
  have HLP := Lib.hid (show ∀ w, Calls Tryd.prog 55 #[.int .i64 P] w (Same w (.int .i64 lp)) from fun w => by rw [hlp]; exact log2_calls P (by omega) w)
  have hps := fun (w : World) (B : Nat) (a b c : Value) (h1 : Tab T w) (h2 : Blk w B 100 #[a, b, c]) (h3 : 3 ≠ B) => prescale_calls (i := i) (e := e) (lp := lp) (by omega) (by omega) hlpb h1 h2 h3
  obtain ⟨hi', hhi⟩ : ∃ x, x = T (i * 2) := ⟨_, rfl⟩
  obtain ⟨lo', hlo⟩ : ∃ x, x = T (i * 2 + 1) := ⟨_, rfl⟩
  obtain ⟨s', hs'⟩ : ∃ x, x = -(e + lp + 3) := ⟨_, rfl⟩
  rw [← hhi, ← hlo, ← hs', hi] at hps
  have HPS := Lib.hid hps
  clear hlp hhi hlo hs' hps hP hi
  obtain ⟨DN, hDN⟩ : ∃ x : Int, IntKind.u64.wrap (NG (US 9223372036854775296 hi' lo' s') (bits .and .i64 4503599627370496 1) + 3) / 4 = x := ⟨_, rfl⟩
  obtain ⟨DX, hDX⟩ : ∃ x : Int, IntKind.u64.wrap (NG (US 9223372036854776832 hi' lo' s') (wrap64 (-(bits .and .i64 4503599627370496 1)))) / 4 = x := ⟨_, rfl⟩
  obtain ⟨DM, hDM⟩ : ∃ x : Int, IntKind.u64.wrap (RN (US 9223372036854775808 hi' lo' s')) / 4 = x := ⟨_, rfl⟩
  have n1 : 0 ≤ DN ∧ DN < 4611686018427387904 := by rw [← hDN]; exact q_range _
  have n2 : 0 ≤ DX ∧ DX < 4611686018427387904 := by rw [← hDX]; exact q_range _
  have n3 : 0 ≤ DM ∧ DM < 4611686018427387904 := by rw [← hDM]; exact q_range _
  have t1 : IntKind.u64.wrap (DX.tdiv 10) = DX / 10 := q_div n2
  have t2 : IntKind.u64.wrap (DX / 10 * 10) = DX / 10 * 10 := q_mul n2
  by_cases C1 : DN ≤ DX / 10 * 10
  · refine ⟨DX / 10, -(P - 1), by omega, ?_⟩
    intro w hT
    have HT := Lib.hid hT
    clear hT
    go_enter Tryd.func47, Tryd.ntmps47
    go_wp2_with fail
    refine (HL.out _).mono ?_
    rintro e1 w1 ⟨rfl, h9⟩
    obtain rfl := h9.symm
    clear h9
    obtain ⟨w1, hw1⟩ : ∃ w1, w1 = w.alloc (.cells #[.int .u64 0, .int .u64 0, .int .i64 0] 100) := ⟨_, rfl⟩
    have hb1 : Below w.heap.size w w1 := by rw [hw1]; exact (Below.refl _ _).alloc (Nat.le_refl _) _
    have hB1 : Blk w1 w.heap.size 100 #[.int .u64 0, .int .u64 0, .int .i64 0] := by rw [hw1]; exact Blk.new _ _ _
    have HW1 := Lib.hid hw1
    have HB1 := Lib.hid hb1
    have HS1 := Lib.hid (HPS.out w1 w.heap.size _ _ _ (HT.out.below hb1 HT.out.lt) hB1 (Nat.ne_of_lt HT.out.lt))
    clear hw1 hb1 hB1
    go_upto_region 28 with fail
    rw [← HW1.out]
    go_wp2_with fail
    refine (HLP.out _).mono ?_
    rintro e1 w9 ⟨rfl, h9⟩
    obtain rfl := h9.symm
    clear h9
    go_wp2_with fail
    refine HS1.out.mono ?_
    rintro e1 w2 ⟨rfl, hB2, hb2⟩
    have HB2 := Lib.hid hB2
    have HB02 := Lib.hid (HB1.out.trans hb2)
    clear hB2 hb2
    go_wp2_with fail
    refine (HUS.out _ _ _ _ _ _ HB2.out).mono ?_
    rintro e1 w3 ⟨rfl, hb3⟩
    have HB3 := Lib.hid (HB2.out.below hb3 HB2.out.lt)
    have HB03 := Lib.hid (HB02.out.trans (hb3.mono HB02.out.size))
    clear hb3
    go_wp2_with fail
    refine (HNG.out _ _ _).mono ?_
    rintro e1 w9 ⟨rfl, h9⟩
    obtain rfl := h9.symm
    clear h9
    go_wp2_with fail
    refine (ceil_calls _ _).mono ?_
    rintro e1 w9 ⟨rfl, h9⟩
    obtain rfl := h9.symm
    clear h9
    go_wp2_with fail
    refine (HUS.out _ _ _ _ _ _ HB3.out).mono ?_
    rintro e1 w4 ⟨rfl, hb4⟩
    have HB4 := Lib.hid (HB3.out.below hb4 HB3.out.lt)
    have HB04 := Lib.hid (HB03.out.trans (hb4.mono HB03.out.size))
    clear hb4
    go_wp2_with fail
    refine (HNG.out _ _ _).mono ?_
    rintro e1 w9 ⟨rfl, h9⟩
    obtain rfl := h9.symm
    clear h9
    go_wp2_with fail
    refine (floor_calls _ _).mono ?_
    rintro e1 w9 ⟨rfl, h9⟩
    obtain rfl := h9.symm
    clear h9
    go_wp2_with fail
    refine bodyPost_ret (v := .tuple #[.int .u64 (DX / 10), .int .i64 (-(P - 1))]) (by simp [results, go_sem]) rfl ⟨rfl, HB04.out⟩
  · by_cases C2 : DN < DX
    · refine ⟨DM, -P, by omega, ?_⟩
      intro w hT
      have HT := Lib.hid hT
      clear hT
      go_enter Tryd.func47, Tryd.ntmps47
      go_wp2_with fail
      refine (HL.out _).mono ?_
      rintro e1 w1 ⟨rfl, h9⟩
      obtain rfl := h9.symm
      clear h9
      obtain ⟨w1, hw1⟩ : ∃ w1, w1 = w.alloc (.cells #[.int .u64 0, .int .u64 0, .int .i64 0] 100) := ⟨_, rfl⟩
      have hb1 : Below w.heap.size w w1 := by rw [hw1]; exact (Below.refl _ _).alloc (Nat.le_refl _) _
      have hB1 : Blk w1 w.heap.size 100 #[.int .u64 0, .int .u64 0, .int .i64 0] := by rw [hw1]; exact Blk.new _ _ _
      have HW1 := Lib.hid hw1
      have HB1 := Lib.hid hb1
      have HS1 := Lib.hid (HPS.out w1 w.heap.size _ _ _ (HT.out.below hb1 HT.out.lt) hB1 (Nat.ne_of_lt HT.out.lt))
      clear hw1 hb1 hB1
      go_upto_region 28 with fail
      rw [← HW1.out]
      go_wp2_with fail
      refine (HLP.out _).mono ?_
      rintro e1 w9 ⟨rfl, h9⟩
      obtain rfl := h9.symm
      clear h9
      go_wp2_with fail
      refine HS1.out.mono ?_
      rintro e1 w2 ⟨rfl, hB2, hb2⟩
      have HB2 := Lib.hid hB2
      have HB02 := Lib.hid (HB1.out.trans hb2)
      clear hB2 hb2
      go_wp2_with fail
      refine (HUS.out _ _ _ _ _ _ HB2.out).mono ?_
      rintro e1 w3 ⟨rfl, hb3⟩
      have HB3 := Lib.hid (HB2.out.below hb3 HB2.out.lt)
      have HB03 := Lib.hid (HB02.out.trans (hb3.mono HB02.out.size))
      clear hb3
      go_wp2_with fail
      refine (HNG.out _ _ _).mono ?_
      rintro e1 w9 ⟨rfl, h9⟩
      obtain rfl := h9.symm
      clear h9
      go_wp2_with fail
      refine (ceil_calls _ _).mono ?_
      rintro e1 w9 ⟨rfl, h9⟩
      obtain rfl := h9.symm
      clear h9
      go_wp2_with fail
      refine (HUS.out _ _ _ _ _ _ HB3.out).mono ?_
      rintro e1 w4 ⟨rfl, hb4⟩
      have HB4 := Lib.hid (HB3.out.below hb4 HB3.out.lt)
      have HB04 := Lib.hid (HB03.out.trans (hb4.mono HB03.out.size))
      clear hb4
      go_wp2_with fail
      refine (HNG.out _ _ _).mono ?_
      rintro e1 w9 ⟨rfl, h9⟩
      obtain rfl := h9.symm
      clear h9
      go_wp2_with fail
      refine (floor_calls _ _).mono ?_
      rintro e1 w9 ⟨rfl, h9⟩
      obtain rfl := h9.symm
      clear h9
      go_wp2_with fail
      refine (HUS.out _ _ _ _ _ _ HB4.out).mono ?_
      rintro e1 w5 ⟨rfl, hb5⟩
      have HB05 := Lib.hid (HB04.out.trans (hb5.mono HB04.out.size))
      clear hb5
      go_wp2_with fail
      refine (HRN.out _ _).mono ?_
      rintro e1 w9 ⟨rfl, h9⟩
      obtain rfl := h9.symm
      clear h9
      go_wp2_with fail
      refine bodyPost_ret (v := .tuple #[.int .u64 (DM), .int .i64 (-P)]) (by simp [results, go_sem]) rfl ⟨rfl, HB05.out⟩
    · refine ⟨DN, -P, by omega, ?_⟩
      intro w hT
      have HT := Lib.hid hT
      clear hT
      go_enter Tryd.func47, Tryd.ntmps47
      go_wp2_with fail
      refine (HL.out _).mono ?_
      rintro e1 w1 ⟨rfl, h9⟩
      obtain rfl := h9.symm
      clear h9
      obtain ⟨w1, hw1⟩ : ∃ w1, w1 = w.alloc (.cells #[.int .u64 0, .int .u64 0, .int .i64 0] 100) := ⟨_, rfl⟩
      have hb1 : Below w.heap.size w w1 := by rw [hw1]; exact (Below.refl _ _).alloc (Nat.le_refl _) _
      have hB1 : Blk w1 w.heap.size 100 #[.int .u64 0, .int .u64 0, .int .i64 0] := by rw [hw1]; exact Blk.new _ _ _
      have HW1 := Lib.hid hw1
      have HB1 := Lib.hid hb1
      have HS1 := Lib.hid (HPS.out w1 w.heap.size _ _ _ (HT.out.below hb1 HT.out.lt) hB1 (Nat.ne_of_lt HT.out.lt))
      clear hw1 hb1 hB1
      go_upto_region 28 with fail
      rw [← HW1.out]
      go_wp2_with fail
      refine (HLP.out _).mono ?_
      rintro e1 w9 ⟨rfl, h9⟩
      obtain rfl := h9.symm
      clear h9
      go_wp2_with fail
      refine HS1.out.mono ?_
      rintro e1 w2 ⟨rfl, hB2, hb2⟩
      have HB2 := Lib.hid hB2
      have HB02 := Lib.hid (HB1.out.trans hb2)
      clear hB2 hb2
      go_wp2_with fail
      refine (HUS.out _ _ _ _ _ _ HB2.out).mono ?_
      rintro e1 w3 ⟨rfl, hb3⟩
      have HB3 := Lib.hid (HB2.out.below hb3 HB2.out.lt)
      have HB03 := Lib.hid (HB02.out.trans (hb3.mono HB02.out.size))
      clear hb3
      go_wp2_with fail
      refine (HNG.out _ _ _).mono ?_
      rintro e1 w9 ⟨rfl, h9⟩
      obtain rfl := h9.symm
      clear h9
      go_wp2_with fail
      refine (ceil_calls _ _).mono ?_
      rintro e1 w9 ⟨rfl, h9⟩
      obtain rfl := h9.symm
      clear h9
      go_wp2_with fail
      refine (HUS.out _ _ _ _ _ _ HB3.out).mono ?_
      rintro e1 w4 ⟨rfl, hb4⟩
      have HB4 := Lib.hid (HB3.out.below hb4 HB3.out.lt)
      have HB04 := Lib.hid (HB03.out.trans (hb4.mono HB03.out.size))
      clear hb4
      go_wp2_with fail
      refine (HNG.out _ _ _).mono ?_
      rintro e1 w9 ⟨rfl, h9⟩
      obtain rfl := h9.symm
      clear h9
      go_wp2_with fail
      refine (floor_calls _ _).mono ?_
      rintro e1 w9 ⟨rfl, h9⟩
      obtain rfl := h9.symm
      clear h9
      go_wp2_with fail
      refine bodyPost_ret (v := .tuple #[.int .u64 (DN), .int .i64 (-P)]) (by simp [results, go_sem]) rfl ⟨rfl, HB04.out⟩
set_option maxHeartbeats 4000000 in
set_option maxRecDepth 100000 in
theorem short2 (T : Nat → Int) (m e : Int) (he : -1200 ≤ e ∧ e ≤ 1000) (hm : m ≠ 9223372036854775808) (hE : -1085 ≤ e) : ∃ d p : Int, (0 ≤ d ∧ d < 4611686018427387904 ∧ -400 ≤ p ∧ p ≤ 400) ∧ ∀ w, Tab T w → Calls Tryd.prog 47 #[.int .u64 m, .int .i64 e] w (SFPost w d p) := by
  obtain ⟨US, HUS⟩ := uscale_fn
  obtain ⟨NG, HNG⟩ := nudge_fn
  obtain ⟨RN, HRN⟩ := round_fn
  have HUS := Lib.hid HUS
  have HNG := Lib.hid HNG
  have HRN := Lib.hid HRN
  obtain ⟨P, hP⟩ : ∃ P : Int, P = -((e + 11) * 78913 / 262144) := ⟨_, rfl⟩
  have hPb : -320 ≤ P ∧ P ≤ 340 := by omega
  obtain ⟨i, hi⟩ : ∃ i : Nat, (i : Int) - 348 = P := ⟨(P + 348).toNat, by omega⟩
  have HL := Lib.hid (show ∀ w, Calls Tryd.prog 42 #[.int .i64 (e + 11)] w (Same w (.int .i64 (-P))) from fun w => by rw [hP, Int.neg_neg]; exact log10_calls (e + 11) (by omega) w)
  have q1 : wrap64 (e + 11) = e + 11 := by rw [wrap64]; omega
  have q2 : wrap64 (-(-P)) = P := by rw [wrap64]; omega
  have q3 : wrap64 P = P := by rw [wrap64]; omega
  have q4 : wrap64 (P - 1) = P - 1 := by rw [wrap64]; omega
  have q5 : wrap64 (-(P - 1)) = -(P - 1) := by rw [wrap64]; omega
  have q6 : wrap64 (-P) = -P := by rw [wrap64]; omega
  obtain ⟨lp, hlp⟩ : ∃ lp : Int, lp = P * 108853 / 32768 := ⟨_, rfl⟩
  have hlpb : -100000 ≤ lp ∧ lp ≤ 100000 := by omega
  have HLP := Lib.hid (show ∀ w, Calls Tryd.prog 55 #[.int .i64 P] w (Same w (.int .i64 lp)) from fun w => by rw [hlp]; exact log2_calls P (by omega) w)
  have hps := fun (w : World) (B : Nat) (a b c : Value) (h1 : Tab T w) (h2 : Blk w B 100 #[a, b, c]) (h3 : 3 ≠ B) => prescale_calls (i := i) (e := e) (lp := lp) (by omega) (by omega) hlpb h1 h2 h3
  obtain ⟨hi', hhi⟩ : ∃ x, x = T (i * 2) := ⟨_, rfl⟩
  obtain ⟨lo', hlo⟩ : ∃ x, x = T (i * 2 + 1) := ⟨_, rfl⟩
  obtain ⟨s', hs'⟩ : ∃ x, x = -(e + lp + 3) := ⟨_, rfl⟩
  rw [← hhi, ← hlo, ← hs', hi] at hps
  have HPS := Lib.hid hps
  clear hlp hhi hlo hs' hps hP hi
  obtain ⟨DN, hDN⟩ : ∃ x : Int, IntKind.u64.wrap (NG (US (IntKind.u64.wrap (m - 1024)) hi' lo' s') (bits .and .i64 (wrap64 (m / 2048)) 1) + 3) / 4 = x := ⟨_, rfl⟩
  obtain ⟨DX, hDX⟩ : ∃ x : Int, IntKind.u64.wrap (NG (US (IntKind.u64.wrap (m + 1024)) hi' lo' s') (wrap64 (-(bits .and .i64 (wrap64 (m / 2048)) 1)))) / 4 = x := ⟨_, rfl⟩
  obtain ⟨DM, hDM⟩ : ∃ x : Int, IntKind.u64.wrap (RN (US m hi' lo' s')) / 4 = x := ⟨_, rfl⟩
  have n1 : 0 ≤ DN ∧ DN < 4611686018427387904 := by rw [← hDN]; exact q_range _
  have n2 : 0 ≤ DX ∧ DX < 4611686018427387904 := by rw [← hDX]; exact q_range _
  have n3 : 0 ≤ DM ∧ DM < 4611686018427387904 := by rw [← hDM]; exact q_range _
  have t1 : IntKind.u64.wrap (DX.tdiv 10) = DX / 10 := q_div n2
  have t2 : IntKind.u64.wrap (DX / 10 * 10) = DX / 10 * 10 := q_mul n2
  by_cases C1 : DN ≤ DX / 10 * 10
  · refine ⟨DX / 10, -(P - 1), by omega, ?_⟩
    intro w hT
    have HT := Lib.hid hT
    clear hT
    go_enter Tryd.func47, Tryd.ntmps47
    go_wp2_with fail
    refine (HL.out _).mono ?_
    rintro e1 w1 ⟨rfl, h9⟩
    obtain rfl := h9.symm
    clear h9
    obtain ⟨w1, hw1⟩ : ∃ w1, w1 = w.alloc (.cells #[.int .u64 0, .int .u64 0, .int .i64 0] 100) := ⟨_, rfl⟩
    have hb1 : Below w.heap.size w w1 := by rw [hw1]; exact (Below.refl _ _).alloc (Nat.le_refl _) _
    have hB1 : Blk w1 w.heap.size 100 #[.int .u64 0, .int .u64 0, .int .i64 0] := by rw [hw1]; exact Blk.new _ _ _
    have HW1 := Lib.hid hw1
    have HB1 := Lib.hid hb1
    have HS1 := Lib.hid (HPS.out w1 w.heap.size _ _ _ (HT.out.below hb1 HT.out.lt) hB1 (Nat.ne_of_lt HT.out.lt))
    clear hw1 hb1 hB1
    go_upto_region 28 with fail
    rw [← HW1.out]
    go_wp2_with fail
    refine (HLP.out _).mono ?_
    rintro e1 w9 ⟨rfl, h9⟩
    obtain rfl := h9.symm
    clear h9
    go_wp2_with fail
    refine HS1.out.mono ?_
    rintro e1 w2 ⟨rfl, hB2, hb2⟩
    have HB2 := Lib.hid hB2
    have HB02 := Lib.hid (HB1.out.trans hb2)
    clear hB2 hb2
    go_wp2_with fail
    refine (HUS.out _ _ _ _ _ _ HB2.out).mono ?_
    rintro e1 w3 ⟨rfl, hb3⟩
    have HB3 := Lib.hid (HB2.out.below hb3 HB2.out.lt)
    have HB03 := Lib.hid (HB02.out.trans (hb3.mono HB02.out.size))
    clear hb3
    go_wp2_with fail
    refine (HNG.out _ _ _).mono ?_
    rintro e1 w9 ⟨rfl, h9⟩
    obtain rfl := h9.symm
    clear h9
    go_wp2_with fail
    refine (ceil_calls _ _).mono ?_
    rintro e1 w9 ⟨rfl, h9⟩
    obtain rfl := h9.symm
    clear h9
    go_wp2_with fail
    refine (HUS.out _ _ _ _ _ _ HB3.out).mono ?_
    rintro e1 w4 ⟨rfl, hb4⟩
    have HB4 := Lib.hid (HB3.out.below hb4 HB3.out.lt)
    have HB04 := Lib.hid (HB03.out.trans (hb4.mono HB03.out.size))
    clear hb4
    go_wp2_with fail
    refine (HNG.out _ _ _).mono ?_
    rintro e1 w9 ⟨rfl, h9⟩
    obtain rfl := h9.symm
    clear h9
    go_wp2_with fail
    refine (floor_calls _ _).mono ?_
    rintro e1 w9 ⟨rfl, h9⟩
    obtain rfl := h9.symm
    clear h9
    go_wp2_with fail
    refine bodyPost_ret (v := .tuple #[.int .u64 (DX / 10), .int .i64 (-(P - 1))]) (by simp [results, go_sem]) rfl ⟨rfl, HB04.out⟩
  · by_cases C2 : DN < DX
    · refine ⟨DM, -P, by omega, ?_⟩
      intro w hT
      have HT := Lib.hid hT
      clear hT
      go_enter Tryd.func47, Tryd.ntmps47
      go_wp2_with fail
      refine (HL.out _).mono ?_
      rintro e1 w1 ⟨rfl, h9⟩
      obtain rfl := h9.symm
      clear h9
      obtain ⟨w1, hw1⟩ : ∃ w1, w1 = w.alloc (.cells #[.int .u64 0, .int .u64 0, .int .i64 0] 100) := ⟨_, rfl⟩
      have hb1 : Below w.heap.size w w1 := by rw [hw1]; exact (Below.refl _ _).alloc (Nat.le_refl _) _
      have hB1 : Blk w1 w.heap.size 100 #[.int .u64 0, .int .u64 0, .int .i64 0] := by rw [hw1]; exact Blk.new _ _ _
      have HW1 := Lib.hid hw1
      have HB1 := Lib.hid hb1
      have HS1 := Lib.hid (HPS.out w1 w.heap.size _ _ _ (HT.out.below hb1 HT.out.lt) hB1 (Nat.ne_of_lt HT.out.lt))
      clear hw1 hb1 hB1
      go_upto_region 28 with fail
      rw [← HW1.out]
      go_wp2_with fail
      refine (HLP.out _).mono ?_
      rintro e1 w9 ⟨rfl, h9⟩
      obtain rfl := h9.symm
      clear h9
      go_wp2_with fail
      refine HS1.out.mono ?_
      rintro e1 w2 ⟨rfl, hB2, hb2⟩
      have HB2 := Lib.hid hB2
      have HB02 := Lib.hid (HB1.out.trans hb2)
      clear hB2 hb2
      go_wp2_with fail
      refine (HUS.out _ _ _ _ _ _ HB2.out).mono ?_
      rintro e1 w3 ⟨rfl, hb3⟩
      have HB3 := Lib.hid (HB2.out.below hb3 HB2.out.lt)
      have HB03 := Lib.hid (HB02.out.trans (hb3.mono HB02.out.size))
      clear hb3
      go_wp2_with fail
      refine (HNG.out _ _ _).mono ?_
      rintro e1 w9 ⟨rfl, h9⟩
      obtain rfl := h9.symm
      clear h9
      go_wp2_with fail
      refine (ceil_calls _ _).mono ?_
      rintro e1 w9 ⟨rfl, h9⟩
      obtain rfl := h9.symm
      clear h9
      go_wp2_with fail
      refine (HUS.out _ _ _ _ _ _ HB3.out).mono ?_
      rintro e1 w4 ⟨rfl, hb4⟩
      have HB4 := Lib.hid (HB3.out.below hb4 HB3.out.lt)
      have HB04 := Lib.hid (HB03.out.trans (hb4.mono HB03.out.size))
      clear hb4
      go_wp2_with fail
      refine (HNG.out _ _ _).mono ?_
      rintro e1 w9 ⟨rfl, h9⟩
      obtain rfl := h9.symm
      clear h9
      go_wp2_with fail
      refine (floor_calls _ _).mono ?_
      rintro e1 w9 ⟨rfl, h9⟩
      obtain rfl := h9.symm
      clear h9
      go_wp2_with fail
      refine (HUS.out _ _ _ _ _ _ HB4.out).mono ?_
      rintro e1 w5 ⟨rfl, hb5⟩
      have HB05 := Lib.hid (HB04.out.trans (hb5.mono HB04.out.size))
      clear hb5
      go_wp2_with fail
      refine (HRN.out _ _).mono ?_
      rintro e1 w9 ⟨rfl, h9⟩
      obtain rfl := h9.symm
      clear h9
      go_wp2_with fail
      refine bodyPost_ret (v := .tuple #[.int .u64 (DM), .int .i64 (-P)]) (by simp [results, go_sem]) rfl ⟨rfl, HB05.out⟩
    · refine ⟨DN, -P, by omega, ?_⟩
      intro w hT
      have HT := Lib.hid hT
      clear hT
      go_enter Tryd.func47, Tryd.ntmps47
      go_wp2_with fail
      refine (HL.out _).mono ?_
      rintro e1 w1 ⟨rfl, h9⟩
      obtain rfl := h9.symm
      clear h9
      obtain ⟨w1, hw1⟩ : ∃ w1, w1 = w.alloc (.cells #[.int .u64 0, .int .u64 0, .int .i64 0] 100) := ⟨_, rfl⟩
      have hb1 : Below w.heap.size w w1 := by rw [hw1]; exact (Below.refl _ _).alloc (Nat.le_refl _) _
      have hB1 : Blk w1 w.heap.size 100 #[.int .u64 0, .int .u64 0, .int .i64 0] := by rw [hw1]; exact Blk.new _ _ _
      have HW1 := Lib.hid hw1
      have HB1 := Lib.hid hb1
      have HS1 := Lib.hid (HPS.out w1 w.heap.size _ _ _ (HT.out.below hb1 HT.out.lt) hB1 (Nat.ne_of_lt HT.out.lt))
      clear hw1 hb1 hB1
      go_upto_region 28 with fail
      rw [← HW1.out]
      go_wp2_with fail
      refine (HLP.out _).mono ?_
      rintro e1 w9 ⟨rfl, h9⟩
      obtain rfl := h9.symm
      clear h9
      go_wp2_with fail
      refine HS1.out.mono ?_
      rintro e1 w2 ⟨rfl, hB2, hb2⟩
      have HB2 := Lib.hid hB2
      have HB02 := Lib.hid (HB1.out.trans hb2)
      clear hB2 hb2
      go_wp2_with fail
      refine (HUS.out _ _ _ _ _ _ HB2.out).mono ?_
      rintro e1 w3 ⟨rfl, hb3⟩
      have HB3 := Lib.hid (HB2.out.below hb3 HB2.out.lt)
      have HB03 := Lib.hid (HB02.out.trans (hb3.mono HB02.out.size))
      clear hb3
      go_wp2_with fail
      refine (HNG.out _ _ _).mono ?_
      rintro e1 w9 ⟨rfl, h9⟩
      obtain rfl := h9.symm
      clear h9
      go_wp2_with fail
      refine (ceil_calls _ _).mono ?_
      rintro e1 w9 ⟨rfl, h9⟩
      obtain rfl := h9.symm
      clear h9
      go_wp2_with fail
      refine (HUS.out _ _ _ _ _ _ HB3.out).mono ?_
      rintro e1 w4 ⟨rfl, hb4⟩
      have HB4 := Lib.hid (HB3.out.below hb4 HB3.out.lt)
      have HB04 := Lib.hid (HB03.out.trans (hb4.mono HB03.out.size))
      clear hb4
      go_wp2_with fail
      refine (HNG.out _ _ _).mono ?_
      rintro e1 w9 ⟨rfl, h9⟩
      obtain rfl := h9.symm
      clear h9
      go_wp2_with fail
      refine (floor_calls _ _).mono ?_
      rintro e1 w9 ⟨rfl, h9⟩
      obtain rfl := h9.symm
      clear h9
      go_wp2_with fail
      refine bodyPost_ret (v := .tuple #[.int .u64 (DN), .int .i64 (-P)]) (by simp [results, go_sem]) rfl ⟨rfl, HB04.out⟩
set_option maxHeartbeats 4000000 in
set_option maxRecDepth 100000 in
theorem short3 (T : Nat → Int) (m e : Int) (he : -1200 ≤ e ∧ e ≤ 1000) (hm : m = 9223372036854775808) (hE : e = -1085) : ∃ d p : Int, (0 ≤ d ∧ d < 4611686018427387904 ∧ -400 ≤ p ∧ p ≤ 400) ∧ ∀ w, Tab T w → Calls Tryd.prog 47 #[.int .u64 m, .int .i64 e] w (SFPost w d p) := by
  subst hm hE
  obtain ⟨US, HUS⟩ := uscale_fn
  obtain ⟨NG, HNG⟩ := nudge_fn
  obtain ⟨RN, HRN⟩ := round_fn
  have HUS := Lib.hid HUS
  have HNG := Lib.hid HNG
  have HRN := Lib.hid HRN
  obtain ⟨P, hP⟩ : ∃ P : Int, P = -((-1074) * 78913 / 262144) := ⟨_, rfl⟩
  have hPb : -320 ≤ P ∧ P ≤ 340 := by omega
  obtain ⟨i, hi⟩ : ∃ i : Nat, (i : Int) - 348 = P := ⟨(P + 348).toNat, by omega⟩
  have HL := Lib.hid (show ∀ w, Calls Tryd.prog 42 #[.int .i64 (-1074)] w (Same w (.int .i64 (-P))) from fun w => by rw [hP, Int.neg_neg]; exact log10_calls (-1074) (by omega) w)
  have q2 : wrap64 (-(-P)) = P := by rw [wrap64]; omega
  have q3 : wrap64 P = P := by rw [wrap64]; omega
  have q4 : wrap64 (P - 1) = P - 1 := by rw [wrap64]; omega
  have q5 : wrap64 (-(P - 1)) = -(P - 1) := by rw [wrap64]; omega
  have q6 : wrap64 (-P) = -P := by rw [wrap64]; omega
  obtain ⟨lp, hlp⟩ : ∃ lp : Int, lp = P * 108853 / 32768 := ⟨_, rfl⟩
  have hlpb : -100000 ≤ lp ∧ lp ≤ 100000 := by omega
  have HLP := Lib.hid (show ∀ w, Calls Tryd.prog 55 #[.int .i64 P] w (Same w (.int .i64 lp)) from fun w => by rw [hlp]; exact log2_calls P (by omega) w)
  have hps := fun (w : World) (B : Nat) (a b c : Value) (h1 : Tab T w) (h2 : Blk w B 100 #[a, b, c]) (h3 : 3 ≠ B) => prescale_calls (i := i) (e := -1085) (lp := lp) (by omega) (by omega) hlpb h1 h2 h3
  obtain ⟨hi', hhi⟩ : ∃ x, x = T (i * 2) := ⟨_, rfl⟩
  obtain ⟨lo', hlo⟩ : ∃ x, x = T (i * 2 + 1) := ⟨_, rfl⟩
  obtain ⟨s', hs'⟩ : ∃ x, x = -(-1085 + lp + 3) := ⟨_, rfl⟩
  rw [← hhi, ← hlo, ← hs', hi] at hps
  have HPS := Lib.hid hps
  clear hlp hhi hlo hs' hps hP hi
  obtain ⟨DN, hDN⟩ : ∃ x : Int, IntKind.u64.wrap (NG (US 9223372036854774784 hi' lo' s') (bits .and .i64 4503599627370496 1) + 3) / 4 = x := ⟨_, rfl⟩
  obtain ⟨DX, hDX⟩ : ∃ x : Int, IntKind.u64.wrap (NG (US 9223372036854776832 hi' lo' s') (wrap64 (-(bits .and .i64 4503599627370496 1)))) / 4 = x := ⟨_, rfl⟩
  obtain ⟨DM, hDM⟩ : ∃ x : Int, IntKind.u64.wrap (RN (US 9223372036854775808 hi' lo' s')) / 4 = x := ⟨_, rfl⟩
  have n1 : 0 ≤ DN ∧ DN < 4611686018427387904 := by rw [← hDN]; exact q_range _
  have n2 : 0 ≤ DX ∧ DX < 4611686018427387904 := by rw [← hDX]; exact q_range _
  have n3 : 0 ≤ DM ∧ DM < 4611686018427387904 := by rw [← hDM]; exact q_range _
  have t1 : IntKind.u64.wrap (DX.tdiv 10) = DX / 10 := q_div n2
  have t2 : IntKind.u64.wrap (DX / 10 * 10) = DX / 10 * 10 := q_mul n2
  by_cases C1 : DN ≤ DX / 10 * 10
  · refine ⟨DX / 10, -(P - 1), by omega, ?_⟩
    intro w hT
    have HT := Lib.hid hT
    clear hT
    go_enter Tryd.func47, Tryd.ntmps47
    go_wp2_with fail
    refine (HL.out _).mono ?_
    rintro e1 w1 ⟨rfl, h9⟩
    obtain rfl := h9.symm
    clear h9
    obtain ⟨w1, hw1⟩ : ∃ w1, w1 = w.alloc (.cells #[.int .u64 0, .int .u64 0, .int .i64 0] 100) := ⟨_, rfl⟩
    have hb1 : Below w.heap.size w w1 := by rw [hw1]; exact (Below.refl _ _).alloc (Nat.le_refl _) _
    have hB1 : Blk w1 w.heap.size 100 #[.int .u64 0, .int .u64 0, .int .i64 0] := by rw [hw1]; exact Blk.new _ _ _
    have HW1 := Lib.hid hw1
    have HB1 := Lib.hid hb1
    have HS1 := Lib.hid (HPS.out w1 w.heap.size _ _ _ (HT.out.below hb1 HT.out.lt) hB1 (Nat.ne_of_lt HT.out.lt))
    clear hw1 hb1 hB1
    go_upto_region 28 with fail
    rw [← HW1.out]
    go_wp2_with fail
    refine (HLP.out _).mono ?_
    rintro e1 w9 ⟨rfl, h9⟩
    obtain rfl := h9.symm
    clear h9
    go_wp2_with fail
    refine HS1.out.mono ?_
    rintro e1 w2 ⟨rfl, hB2, hb2⟩
    have HB2 := Lib.hid hB2
    have HB02 := Lib.hid (HB1.out.trans hb2)
    clear hB2 hb2
    go_wp2_with fail
    refine (HUS.out _ _ _ _ _ _ HB2.out).mono ?_
    rintro e1 w3 ⟨rfl, hb3⟩
    have HB3 := Lib.hid (HB2.out.below hb3 HB2.out.lt)
    have HB03 := Lib.hid (HB02.out.trans (hb3.mono HB02.out.size))
    clear hb3
    go_wp2_with fail
    refine (HNG.out _ _ _).mono ?_
    rintro e1 w9 ⟨rfl, h9⟩
    obtain rfl := h9.symm
    clear h9
    go_wp2_with fail
    refine (ceil_calls _ _).mono ?_
    rintro e1 w9 ⟨rfl, h9⟩
    obtain rfl := h9.symm
    clear h9
    go_wp2_with fail
    refine (HUS.out _ _ _ _ _ _ HB3.out).mono ?_
    rintro e1 w4 ⟨rfl, hb4⟩
    have HB4 := Lib.hid (HB3.out.below hb4 HB3.out.lt)
    have HB04 := Lib.hid (HB03.out.trans (hb4.mono HB03.out.size))
    clear hb4
    go_wp2_with fail
    refine (HNG.out _ _ _).mono ?_
    rintro e1 w9 ⟨rfl, h9⟩
    obtain rfl := h9.symm
    clear h9
    go_wp2_with fail
    refine (floor_calls _ _).mono ?_
    rintro e1 w9 ⟨rfl, h9⟩
    obtain rfl := h9.symm
    clear h9
    go_wp2_with fail
    refine bodyPost_ret (v := .tuple #[.int .u64 (DX / 10), .int .i64 (-(P - 1))]) (by simp [results, go_sem]) rfl ⟨rfl, HB04.out⟩
  · by_cases C2 : DN < DX
    · refine ⟨DM, -P, by omega, ?_⟩
      intro w hT
      have HT := Lib.hid hT
      clear hT
      go_enter Tryd.func47, Tryd.ntmps47
      go_wp2_with fail
      refine (HL.out _).mono ?_
      rintro e1 w1 ⟨rfl, h9⟩
      obtain rfl := h9.symm
      clear h9
      obtain ⟨w1, hw1⟩ : ∃ w1, w1 = w.alloc (.cells #[.int .u64 0, .int .u64 0, .int .i64 0] 100) := ⟨_, rfl⟩
      have hb1 : Below w.heap.size w w1 := by rw [hw1]; exact (Below.refl _ _).alloc (Nat.le_refl _) _
      have hB1 : Blk w1 w.heap.size 100 #[.int .u64 0, .int .u64 0, .int .i64 0] := by rw [hw1]; exact Blk.new _ _ _
      have HW1 := Lib.hid hw1
      have HB1 := Lib.hid hb1
      have HS1 := Lib.hid (HPS.out w1 w.heap.size _ _ _ (HT.out.below hb1 HT.out.lt) hB1 (Nat.ne_of_lt HT.out.lt))
      clear hw1 hb1 hB1
      go_upto_region 28 with fail
      rw [← HW1.out]
      go_wp2_with fail
      refine (HLP.out _).mono ?_
      rintro e1 w9 ⟨rfl, h9⟩
      obtain rfl := h9.symm
      clear h9
      go_wp2_with fail
      refine HS1.out.mono ?_
      rintro e1 w2 ⟨rfl, hB2, hb2⟩
      have HB2 := Lib.hid hB2
      have HB02 := Lib.hid (HB1.out.trans hb2)
      clear hB2 hb2
      go_wp2_with fail
      refine (HUS.out _ _ _ _ _ _ HB2.out).mono ?_
      rintro e1 w3 ⟨rfl, hb3⟩
      have HB3 := Lib.hid (HB2.out.below hb3 HB2.out.lt)
      have HB03 := Lib.hid (HB02.out.trans (hb3.mono HB02.out.size))
      clear hb3
      go_wp2_with fail
      refine (HNG.out _ _ _).mono ?_
      rintro e1 w9 ⟨rfl, h9⟩
      obtain rfl := h9.symm
      clear h9
      go_wp2_with fail
      refine (ceil_calls _ _).mono ?_
      rintro e1 w9 ⟨rfl, h9⟩
      obtain rfl := h9.symm
      clear h9
      go_wp2_with fail
      refine (HUS.out _ _ _ _ _ _ HB3.out).mono ?_
      rintro e1 w4 ⟨rfl, hb4⟩
      have HB4 := Lib.hid (HB3.out.below hb4 HB3.out.lt)
      have HB04 := Lib.hid (HB03.out.trans (hb4.mono HB03.out.size))
      clear hb4
      go_wp2_with fail
      refine (HNG.out _ _ _).mono ?_
      rintro e1 w9 ⟨rfl, h9⟩
      obtain rfl := h9.symm
      clear h9
      go_wp2_with fail
      refine (floor_calls _ _).mono ?_
      rintro e1 w9 ⟨rfl, h9⟩
      obtain rfl := h9.symm
      clear h9
      go_wp2_with fail
      refine (HUS.out _ _ _ _ _ _ HB4.out).mono ?_
      rintro e1 w5 ⟨rfl, hb5⟩
      have HB05 := Lib.hid (HB04.out.trans (hb5.mono HB04.out.size))
      clear hb5
      go_wp2_with fail
      refine (HRN.out _ _).mono ?_
      rintro e1 w9 ⟨rfl, h9⟩
      obtain rfl := h9.symm
      clear h9
      go_wp2_with fail
      refine bodyPost_ret (v := .tuple #[.int .u64 (DM), .int .i64 (-P)]) (by simp [results, go_sem]) rfl ⟨rfl, HB05.out⟩
    · refine ⟨DN, -P, by omega, ?_⟩
      intro w hT
      have HT := Lib.hid hT
      clear hT
      go_enter Tryd.func47, Tryd.ntmps47
      go_wp2_with fail
      refine (HL.out _).mono ?_
      rintro e1 w1 ⟨rfl, h9⟩
      obtain rfl := h9.symm
      clear h9
      obtain ⟨w1, hw1⟩ : ∃ w1, w1 = w.alloc (.cells #[.int .u64 0, .int .u64 0, .int .i64 0] 100) := ⟨_, rfl⟩
      have hb1 : Below w.heap.size w w1 := by rw [hw1]; exact (Below.refl _ _).alloc (Nat.le_refl _) _
      have hB1 : Blk w1 w.heap.size 100 #[.int .u64 0, .int .u64 0, .int .i64 0] := by rw [hw1]; exact Blk.new _ _ _
      have HW1 := Lib.hid hw1
      have HB1 := Lib.hid hb1
      have HS1 := Lib.hid (HPS.out w1 w.heap.size _ _ _ (HT.out.below hb1 HT.out.lt) hB1 (Nat.ne_of_lt HT.out.lt))
      clear hw1 hb1 hB1
      go_upto_region 28 with fail
      rw [← HW1.out]
      go_wp2_with fail
      refine (HLP.out _).mono ?_
      rintro e1 w9 ⟨rfl, h9⟩
      obtain rfl := h9.symm
      clear h9
      go_wp2_with fail
      refine HS1.out.mono ?_
      rintro e1 w2 ⟨rfl, hB2, hb2⟩
      have HB2 := Lib.hid hB2
      have HB02 := Lib.hid (HB1.out.trans hb2)
      clear hB2 hb2
      go_wp2_with fail
      refine (HUS.out _ _ _ _ _ _ HB2.out).mono ?_
      rintro e1 w3 ⟨rfl, hb3⟩
      have HB3 := Lib.hid (HB2.out.below hb3 HB2.out.lt)
      have HB03 := Lib.hid (HB02.out.trans (hb3.mono HB02.out.size))
      clear hb3
      go_wp2_with fail
      refine (HNG.out _ _ _).mono ?_
      rintro e1 w9 ⟨rfl, h9⟩
      obtain rfl := h9.symm
      clear h9
      go_wp2_with fail
      refine (ceil_calls _ _).mono ?_
      rintro e1 w9 ⟨rfl, h9⟩
      obtain rfl := h9.symm
      clear h9
      go_wp2_with fail
      refine (HUS.out _ _ _ _ _ _ HB3.out).mono ?_
      rintro e1 w4 ⟨rfl, hb4⟩
      have HB4 := Lib.hid (HB3.out.below hb4 HB3.out.lt)
      have HB04 := Lib.hid (HB03.out.trans (hb4.mono HB03.out.size))
      clear hb4
      go_wp2_with fail
      refine (HNG.out _ _ _).mono ?_
      rintro e1 w9 ⟨rfl, h9⟩
      obtain rfl := h9.symm
      clear h9
      go_wp2_with fail
      refine (floor_calls _ _).mono ?_
      rintro e1 w9 ⟨rfl, h9⟩
      obtain rfl := h9.symm
      clear h9
      go_wp2_with fail
      refine bodyPost_ret (v := .tuple #[.int .u64 (DN), .int .i64 (-P)]) (by simp [results, go_sem]) rfl ⟨rfl, HB04.out⟩
set_option maxHeartbeats 4000000 in
set_option maxRecDepth 100000 in
theorem short4 (T : Nat → Int) (m e : Int) (he : -1200 ≤ e ∧ e ≤ 1000) (hm : m ≠ 9223372036854775808) (hE : e < -1085) : ∃ d p : Int, (0 ≤ d ∧ d < 4611686018427387904 ∧ -400 ≤ p ∧ p ≤ 400) ∧ ∀ w, Tab T w → Calls Tryd.prog 47 #[.int .u64 m, .int .i64 e] w (SFPost w d p) := by
  obtain ⟨US, HUS⟩ := uscale_fn
  obtain ⟨NG, HNG⟩ := nudge_fn
  obtain ⟨RN, HRN⟩ := round_fn
  have HUS := Lib.hid HUS
  have HNG := Lib.hid HNG
  have HRN := Lib.hid HRN
  obtain ⟨P, hP⟩ : ∃ P : Int, P = -((-1074) * 78913 / 262144) := ⟨_, rfl⟩
  have hPb : -320 ≤ P ∧ P ≤ 340 := by omega
  obtain ⟨i, hi⟩ : ∃ i : Nat, (i : Int) - 348 = P := ⟨(P + 348).toNat, by omega⟩
  have HL := Lib.hid (show ∀ w, Calls Tryd.prog 42 #[.int .i64 (e + (11 + (-1085 - e)))] w (Same w (.int .i64 (-P))) from fun w => by rw [show e + (11 + (-1085 - e)) = -1074 by omega]; rw [hP, Int.neg_neg]; exact log10_calls (-1074) (by omega) w)
  obtain ⟨sl, hsl⟩ := shl_fun (11 + (-1085 - e) - 1) (by omega)
  obtain ⟨sr, hsr⟩ := shr_fun (11 + (-1085 - e)) (by omega)
  have q2 : wrap64 (-(-P)) = P := by rw [wrap64]; omega
  have q3 : wrap64 P = P := by rw [wrap64]; omega
  have q4 : wrap64 (P - 1) = P - 1 := by rw [wrap64]; omega
  have q5 : wrap64 (-(P - 1)) = -(P - 1) := by rw [wrap64]; omega
  have q6 : wrap64 (-P) = -P := by rw [wrap64]; omega
  obtain ⟨lp, hlp⟩ : ∃ lp : Int, lp = P * 108853 / 32768 := ⟨_, rfl⟩
  have hlpb : -100000 ≤ lp ∧ lp ≤ 100000 := by omega
  have HLP := Lib.hid (show ∀ w, Calls Tryd.prog 55 #[.int .i64 P] w (Same w (.int .i64 lp)) from fun w => by rw [hlp]; exact log2_calls P (by omega) w)
  have hps := fun (w : World) (B : Nat) (a b c : Value) (h1 : Tab T w) (h2 : Blk w B 100 #[a, b, c]) (h3 : 3 ≠ B) => prescale_calls (i := i) (e := e) (lp := lp) (by omega) (by omega) hlpb h1 h2 h3
  obtain ⟨hi', hhi⟩ : ∃ x, x = T (i * 2) := ⟨_, rfl⟩
  obtain ⟨lo', hlo⟩ : ∃ x, x = T (i * 2 + 1) := ⟨_, rfl⟩
  obtain ⟨s', hs'⟩ : ∃ x, x = -(e + lp + 3) := ⟨_, rfl⟩
  rw [← hhi, ← hlo, ← hs', hi] at hps
  have HPS := Lib.hid hps
  clear hlp hhi hlo hs' hps hP hi
  obtain ⟨DN, hDN⟩ : ∃ x : Int, IntKind.u64.wrap (NG (US (IntKind.u64.wrap (m - sl 1)) hi' lo' s') (bits .and .i64 (wrap64 (sr m)) 1) + 3) / 4 = x := ⟨_, rfl⟩
  obtain ⟨DX, hDX⟩ : ∃ x : Int, IntKind.u64.wrap (NG (US (IntKind.u64.wrap (m + sl 1)) hi' lo' s') (wrap64 (-(bits .and .i64 (wrap64 (sr m)) 1)))) / 4 = x := ⟨_, rfl⟩
  obtain ⟨DM, hDM⟩ : ∃ x : Int, IntKind.u64.wrap (RN (US m hi' lo' s')) / 4 = x := ⟨_, rfl⟩
  have n1 : 0 ≤ DN ∧ DN < 4611686018427387904 := by rw [← hDN]; exact q_range _
  have n2 : 0 ≤ DX ∧ DX < 4611686018427387904 := by rw [← hDX]; exact q_range _
  have n3 : 0 ≤ DM ∧ DM < 4611686018427387904 := by rw [← hDM]; exact q_range _
  have t1 : IntKind.u64.wrap (DX.tdiv 10) = DX / 10 := q_div n2
  have t2 : IntKind.u64.wrap (DX / 10 * 10) = DX / 10 * 10 := q_mul n2
  by_cases C1 : DN ≤ DX / 10 * 10
  · refine ⟨DX / 10, -(P - 1), by omega, ?_⟩
    intro w hT
    have HT := Lib.hid hT
    clear hT
    go_enter Tryd.func47, Tryd.ntmps47
    go_wp2_with fail
    refine (HL.out _).mono ?_
    rintro e1 w1 ⟨rfl, h9⟩
    obtain rfl := h9.symm
    clear h9
    obtain ⟨w1, hw1⟩ : ∃ w1, w1 = w.alloc (.cells #[.int .u64 0, .int .u64 0, .int .i64 0] 100) := ⟨_, rfl⟩
    have hb1 : Below w.heap.size w w1 := by rw [hw1]; exact (Below.refl _ _).alloc (Nat.le_refl _) _
    have hB1 : Blk w1 w.heap.size 100 #[.int .u64 0, .int .u64 0, .int .i64 0] := by rw [hw1]; exact Blk.new _ _ _
    have HW1 := Lib.hid hw1
    have HB1 := Lib.hid hb1
    have HS1 := Lib.hid (HPS.out w1 w.heap.size _ _ _ (HT.out.below hb1 HT.out.lt) hB1 (Nat.ne_of_lt HT.out.lt))
    clear hw1 hb1 hB1
    go_upto_region 28 with fail
    rw [← HW1.out]
    go_wp2_with fail
    refine (HLP.out _).mono ?_
    rintro e1 w9 ⟨rfl, h9⟩
    obtain rfl := h9.symm
    clear h9
    go_wp2_with fail
    refine HS1.out.mono ?_
    rintro e1 w2 ⟨rfl, hB2, hb2⟩
    have HB2 := Lib.hid hB2
    have HB02 := Lib.hid (HB1.out.trans hb2)
    clear hB2 hb2
    go_wp2_with fail
    refine (HUS.out _ _ _ _ _ _ HB2.out).mono ?_
    rintro e1 w3 ⟨rfl, hb3⟩
    have HB3 := Lib.hid (HB2.out.below hb3 HB2.out.lt)
    have HB03 := Lib.hid (HB02.out.trans (hb3.mono HB02.out.size))
    clear hb3
    go_wp2_with fail
    refine (HNG.out _ _ _).mono ?_
    rintro e1 w9 ⟨rfl, h9⟩
    obtain rfl := h9.symm
    clear h9
    go_wp2_with fail
    refine (ceil_calls _ _).mono ?_
    rintro e1 w9 ⟨rfl, h9⟩
    obtain rfl := h9.symm
    clear h9
    go_wp2_with fail
    refine (HUS.out _ _ _ _ _ _ HB3.out).mono ?_
    rintro e1 w4 ⟨rfl, hb4⟩
    have HB4 := Lib.hid (HB3.out.below hb4 HB3.out.lt)
    have HB04 := Lib.hid (HB03.out.trans (hb4.mono HB03.out.size))
    clear hb4
    go_wp2_with fail
    refine (HNG.out _ _ _).mono ?_
    rintro e1 w9 ⟨rfl, h9⟩
    obtain rfl := h9.symm
    clear h9
    go_wp2_with fail
    refine (floor_calls _ _).mono ?_
    rintro e1 w9 ⟨rfl, h9⟩
    obtain rfl := h9.symm
    clear h9
    go_wp2_with fail
    refine bodyPost_ret (v := .tuple #[.int .u64 (DX / 10), .int .i64 (-(P - 1))]) (by simp [results, go_sem]) rfl ⟨rfl, HB04.out⟩
  · by_cases C2 : DN < DX
    · refine ⟨DM, -P, by omega, ?_⟩
      intro w hT
      have HT := Lib.hid hT
      clear hT
      go_enter Tryd.func47, Tryd.ntmps47
      go_wp2_with fail
      refine (HL.out _).mono ?_
      rintro e1 w1 ⟨rfl, h9⟩
      obtain rfl := h9.symm
      clear h9
      obtain ⟨w1, hw1⟩ : ∃ w1, w1 = w.alloc (.cells #[.int .u64 0, .int .u64 0, .int .i64 0] 100) := ⟨_, rfl⟩
      have hb1 : Below w.heap.size w w1 := by rw [hw1]; exact (Below.refl _ _).alloc (Nat.le_refl _) _
      have hB1 : Blk w1 w.heap.size 100 #[.int .u64 0, .int .u64 0, .int .i64 0] := by rw [hw1]; exact Blk.new _ _ _
      have HW1 := Lib.hid hw1
      have HB1 := Lib.hid hb1
      have HS1 := Lib.hid (HPS.out w1 w.heap.size _ _ _ (HT.out.below hb1 HT.out.lt) hB1 (Nat.ne_of_lt HT.out.lt))
      clear hw1 hb1 hB1
      go_upto_region 28 with fail
      rw [← HW1.out]
      go_wp2_with fail
      refine (HLP.out _).mono ?_
      rintro e1 w9 ⟨rfl, h9⟩
      obtain rfl := h9.symm
      clear h9
      go_wp2_with fail
      refine HS1.out.mono ?_
      rintro e1 w2 ⟨rfl, hB2, hb2⟩
      have HB2 := Lib.hid hB2
      have HB02 := Lib.hid (HB1.out.trans hb2)
      clear hB2 hb2
      go_wp2_with fail
      refine (HUS.out _ _ _ _ _ _ HB2.out).mono ?_
      rintro e1 w3 ⟨rfl, hb3⟩
      have HB3 := Lib.hid (HB2.out.below hb3 HB2.out.lt)
      have HB03 := Lib.hid (HB02.out.trans (hb3.mono HB02.out.size))
      clear hb3
      go_wp2_with fail
      refine (HNG.out _ _ _).mono ?_
      rintro e1 w9 ⟨rfl, h9⟩
      obtain rfl := h9.symm
      clear h9
      go_wp2_with fail
      refine (ceil_calls _ _).mono ?_
      rintro e1 w9 ⟨rfl, h9⟩
      obtain rfl := h9.symm
      clear h9
      go_wp2_with fail
      refine (HUS.out _ _ _ _ _ _ HB3.out).mono ?_
      rintro e1 w4 ⟨rfl, hb4⟩
      have HB4 := Lib.hid (HB3.out.below hb4 HB3.out.lt)
      have HB04 := Lib.hid (HB03.out.trans (hb4.mono HB03.out.size))
      clear hb4
      go_wp2_with fail
      refine (HNG.out _ _ _).mono ?_
      rintro e1 w9 ⟨rfl, h9⟩
      obtain rfl := h9.symm
      clear h9
      go_wp2_with fail
      refine (floor_calls _ _).mono ?_
      rintro e1 w9 ⟨rfl, h9⟩
      obtain rfl := h9.symm
      clear h9
      go_wp2_with fail
      refine (HUS.out _ _ _ _ _ _ HB4.out).mono ?_
      rintro e1 w5 ⟨rfl, hb5⟩
      have HB05 := Lib.hid (HB04.out.trans (hb5.mono HB04.out.size))
      clear hb5
      go_wp2_with fail
      refine (HRN.out _ _).mono ?_
      rintro e1 w9 ⟨rfl, h9⟩
      obtain rfl := h9.symm
      clear h9
      go_wp2_with fail
      refine bodyPost_ret (v := .tuple #[.int .u64 (DM), .int .i64 (-P)]) (by simp [results, go_sem]) rfl ⟨rfl, HB05.out⟩
    · refine ⟨DN, -P, by omega, ?_⟩
      intro w hT
      have HT := Lib.hid hT
      clear hT
      go_enter Tryd.func47, Tryd.ntmps47
      go_wp2_with fail
      refine (HL.out _).mono ?_
      rintro e1 w1 ⟨rfl, h9⟩
      obtain rfl := h9.symm
      clear h9
      obtain ⟨w1, hw1⟩ : ∃ w1, w1 = w.alloc (.cells #[.int .u64 0, .int .u64 0, .int .i64 0] 100) := ⟨_, rfl⟩
      have hb1 : Below w.heap.size w w1 := by rw [hw1]; exact (Below.refl _ _).alloc (Nat.le_refl _) _
      have hB1 : Blk w1 w.heap.size 100 #[.int .u64 0, .int .u64 0, .int .i64 0] := by rw [hw1]; exact Blk.new _ _ _
      have HW1 := Lib.hid hw1
      have HB1 := Lib.hid hb1
      have HS1 := Lib.hid (HPS.out w1 w.heap.size _ _ _ (HT.out.below hb1 HT.out.lt) hB1 (Nat.ne_of_lt HT.out.lt))
      clear hw1 hb1 hB1
      go_upto_region 28 with fail
      rw [← HW1.out]
      go_wp2_with fail
      refine (HLP.out _).mono ?_
      rintro e1 w9 ⟨rfl, h9⟩
      obtain rfl := h9.symm
      clear h9
      go_wp2_with fail
      refine HS1.out.mono ?_
      rintro e1 w2 ⟨rfl, hB2, hb2⟩
      have HB2 := Lib.hid hB2
      have HB02 := Lib.hid (HB1.out.trans hb2)
      clear hB2 hb2
      go_wp2_with fail
      refine (HUS.out _ _ _ _ _ _ HB2.out).mono ?_
      rintro e1 w3 ⟨rfl, hb3⟩
      have HB3 := Lib.hid (HB2.out.below hb3 HB2.out.lt)
      have HB03 := Lib.hid (HB02.out.trans (hb3.mono HB02.out.size))
      clear hb3
      go_wp2_with fail
      refine (HNG.out _ _ _).mono ?_
      rintro e1 w9 ⟨rfl, h9⟩
      obtain rfl := h9.symm
      clear h9
      go_wp2_with fail
      refine (ceil_calls _ _).mono ?_
      rintro e1 w9 ⟨rfl, h9⟩
      obtain rfl := h9.symm
      clear h9
      go_wp2_with fail
      refine (HUS.out _ _ _ _ _ _ HB3.out).mono ?_
      rintro e1 w4 ⟨rfl, hb4⟩
      have HB4 := Lib.hid (HB3.out.below hb4 HB3.out.lt)
      have HB04 := Lib.hid (HB03.out.trans (hb4.mono HB03.out.size))
      clear hb4
      go_wp2_with fail
      refine (HNG.out _ _ _).mono ?_
      rintro e1 w9 ⟨rfl, h9⟩
      obtain rfl := h9.symm
      clear h9
      go_wp2_with fail
      refine (floor_calls _ _).mono ?_
      rintro e1 w9 ⟨rfl, h9⟩
      obtain rfl := h9.symm
      clear h9
      go_wp2_with fail
      refine bodyPost_ret (v := .tuple #[.int .u64 (DN), .int .i64 (-P)]) (by simp [results, go_sem]) rfl ⟨rfl, HB04.out⟩
set_option maxHeartbeats 4000000 in
set_option maxRecDepth 100000 in
theorem short5 (T : Nat → Int) (m e : Int) (he : -1200 ≤ e ∧ e ≤ 1000) (hm : m = 9223372036854775808) (hE : e < -1085) : ∃ d p : Int, (0 ≤ d ∧ d < 4611686018427387904 ∧ -400 ≤ p ∧ p ≤ 400) ∧ ∀ w, Tab T w → Calls Tryd.prog 47 #[.int .u64 m, .int .i64 e] w (SFPost w d p) := by
  subst hm
  obtain ⟨US, HUS⟩ := uscale_fn
  obtain ⟨NG, HNG⟩ := nudge_fn
  obtain ⟨RN, HRN⟩ := round_fn
  have HUS := Lib.hid HUS
  have HNG := Lib.hid HNG
  have HRN := Lib.hid HRN
  obtain ⟨P, hP⟩ : ∃ P : Int, P = -((-1074) * 78913 / 262144) := ⟨_, rfl⟩
  have hPb : -320 ≤ P ∧ P ≤ 340 := by omega
  obtain ⟨i, hi⟩ : ∃ i : Nat, (i : Int) - 348 = P := ⟨(P + 348).toNat, by omega⟩
  have HL := Lib.hid (show ∀ w, Calls Tryd.prog 42 #[.int .i64 (e + (11 + (-1085 - e)))] w (Same w (.int .i64 (-P))) from fun w => by rw [show e + (11 + (-1085 - e)) = -1074 by omega]; rw [hP, Int.neg_neg]; exact log10_calls (-1074) (by omega) w)
  obtain ⟨sl, hsl⟩ := shl_fun (11 + (-1085 - e) - 1) (by omega)
  obtain ⟨sr, hsr⟩ := shr_fun (11 + (-1085 - e)) (by omega)
  have q2 : wrap64 (-(-P)) = P := by rw [wrap64]; omega
  have q3 : wrap64 P = P := by rw [wrap64]; omega
  have q4 : wrap64 (P - 1) = P - 1 := by rw [wrap64]; omega
  have q5 : wrap64 (-(P - 1)) = -(P - 1) := by rw [wrap64]; omega
  have q6 : wrap64 (-P) = -P := by rw [wrap64]; omega
  obtain ⟨lp, hlp⟩ : ∃ lp : Int, lp = P * 108853 / 32768 := ⟨_, rfl⟩
  have hlpb : -100000 ≤ lp ∧ lp ≤ 100000 := by omega
  have HLP := Lib.hid (show ∀ w, Calls Tryd.prog 55 #[.int .i64 P] w (Same w (.int .i64 lp)) from fun w => by rw [hlp]; exact log2_calls P (by omega) w)
  have hps := fun (w : World) (B : Nat) (a b c : Value) (h1 : Tab T w) (h2 : Blk w B 100 #[a, b, c]) (h3 : 3 ≠ B) => prescale_calls (i := i) (e := e) (lp := lp) (by omega) (by omega) hlpb h1 h2 h3
  obtain ⟨hi', hhi⟩ : ∃ x, x = T (i * 2) := ⟨_, rfl⟩
  obtain ⟨lo', hlo⟩ : ∃ x, x = T (i * 2 + 1) := ⟨_, rfl⟩
  obtain ⟨s', hs'⟩ : ∃ x, x = -(e + lp + 3) := ⟨_, rfl⟩
  rw [← hhi, ← hlo, ← hs', hi] at hps
  have HPS := Lib.hid hps
  clear hlp hhi hlo hs' hps hP hi
  obtain ⟨DN, hDN⟩ : ∃ x : Int, IntKind.u64.wrap (NG (US (IntKind.u64.wrap (9223372036854775808 - sl 1)) hi' lo' s') (bits .and .i64 (wrap64 (sr 9223372036854775808)) 1) + 3) / 4 = x := ⟨_, rfl⟩
  obtain ⟨DX, hDX⟩ : ∃ x : Int, IntKind.u64.wrap (NG (US (IntKind.u64.wrap (9223372036854775808 + sl 1)) hi' lo' s') (wrap64 (-(bits .and .i64 (wrap64 (sr 9223372036854775808)) 1)))) / 4 = x := ⟨_, rfl⟩
  obtain ⟨DM, hDM⟩ : ∃ x : Int, IntKind.u64.wrap (RN (US 9223372036854775808 hi' lo' s')) / 4 = x := ⟨_, rfl⟩
  have n1 : 0 ≤ DN ∧ DN < 4611686018427387904 := by rw [← hDN]; exact q_range _
  have n2 : 0 ≤ DX ∧ DX < 4611686018427387904 := by rw [← hDX]; exact q_range _
  have n3 : 0 ≤ DM ∧ DM < 4611686018427387904 := by rw [← hDM]; exact q_range _
  have t1 : IntKind.u64.wrap (DX.tdiv 10) = DX / 10 := q_div n2
  have t2 : IntKind.u64.wrap (DX / 10 * 10) = DX / 10 * 10 := q_mul n2
  by_cases C1 : DN ≤ DX / 10 * 10
  · refine ⟨DX / 10, -(P - 1), by omega, ?_⟩
    intro w hT
    have HT := Lib.hid hT
    clear hT
    go_enter Tryd.func47, Tryd.ntmps47
    go_wp2_with fail
    refine (HL.out _).mono ?_
    rintro e1 w1 ⟨rfl, h9⟩
    obtain rfl := h9.symm
    clear h9
    obtain ⟨w1, hw1⟩ : ∃ w1, w1 = w.alloc (.cells #[.int .u64 0, .int .u64 0, .int .i64 0] 100) := ⟨_, rfl⟩
    have hb1 : Below w.heap.size w w1 := by rw [hw1]; exact (Below.refl _ _).alloc (Nat.le_refl _) _
    have hB1 : Blk w1 w.heap.size 100 #[.int .u64 0, .int .u64 0, .int .i64 0] := by rw [hw1]; exact Blk.new _ _ _
    have HW1 := Lib.hid hw1
    have HB1 := Lib.hid hb1
    have HS1 := Lib.hid (HPS.out w1 w.heap.size _ _ _ (HT.out.below hb1 HT.out.lt) hB1 (Nat.ne_of_lt HT.out.lt))
    clear hw1 hb1 hB1
    go_upto_region 28 with fail
    rw [← HW1.out]
    go_wp2_with fail
    refine (HLP.out _).mono ?_
    rintro e1 w9 ⟨rfl, h9⟩
    obtain rfl := h9.symm
    clear h9
    go_wp2_with fail
    refine HS1.out.mono ?_
    rintro e1 w2 ⟨rfl, hB2, hb2⟩
    have HB2 := Lib.hid hB2
    have HB02 := Lib.hid (HB1.out.trans hb2)
    clear hB2 hb2
    go_wp2_with fail
    refine (HUS.out _ _ _ _ _ _ HB2.out).mono ?_
    rintro e1 w3 ⟨rfl, hb3⟩
    have HB3 := Lib.hid (HB2.out.below hb3 HB2.out.lt)
    have HB03 := Lib.hid (HB02.out.trans (hb3.mono HB02.out.size))
    clear hb3
    go_wp2_with fail
    refine (HNG.out _ _ _).mono ?_
    rintro e1 w9 ⟨rfl, h9⟩
    obtain rfl := h9.symm
    clear h9
    go_wp2_with fail
    refine (ceil_calls _ _).mono ?_
    rintro e1 w9 ⟨rfl, h9⟩
    obtain rfl := h9.symm
    clear h9
    go_wp2_with fail
    refine (HUS.out _ _ _ _ _ _ HB3.out).mono ?_
    rintro e1 w4 ⟨rfl, hb4⟩
    have HB4 := Lib.hid (HB3.out.below hb4 HB3.out.lt)
    have HB04 := Lib.hid (HB03.out.trans (hb4.mono HB03.out.size))
    clear hb4
    go_wp2_with fail
    refine (HNG.out _ _ _).mono ?_
    rintro e1 w9 ⟨rfl, h9⟩
    obtain rfl := h9.symm
    clear h9
    go_wp2_with fail
    refine (floor_calls _ _).mono ?_
    rintro e1 w9 ⟨rfl, h9⟩
    obtain rfl := h9.symm
    clear h9
    go_wp2_with fail
    refine bodyPost_ret (v := .tuple #[.int .u64 (DX / 10), .int .i64 (-(P - 1))]) (by simp [results, go_sem]) rfl ⟨rfl, HB04.out⟩
  · by_cases C2 : DN < DX
    · refine ⟨DM, -P, by omega, ?_⟩
      intro w hT
      have HT := Lib.hid hT
      clear hT
      go_enter Tryd.func47, Tryd.ntmps47
      go_wp2_with fail
      refine (HL.out _).mono ?_
      rintro e1 w1 ⟨rfl, h9⟩
      obtain rfl := h9.symm
      clear h9
      obtain ⟨w1, hw1⟩ : ∃ w1, w1 = w.alloc (.cells #[.int .u64 0, .int .u64 0, .int .i64 0] 100) := ⟨_, rfl⟩
      have hb1 : Below w.heap.size w w1 := by rw [hw1]; exact (Below.refl _ _).alloc (Nat.le_refl _) _
      have hB1 : Blk w1 w.heap.size 100 #[.int .u64 0, .int .u64 0, .int .i64 0] := by rw [hw1]; exact Blk.new _ _ _
      have HW1 := Lib.hid hw1
      have HB1 := Lib.hid hb1
      have HS1 := Lib.hid (HPS.out w1 w.heap.size _ _ _ (HT.out.below hb1 HT.out.lt) hB1 (Nat.ne_of_lt HT.out.lt))
      clear hw1 hb1 hB1
      go_upto_region 28 with fail
      rw [← HW1.out]
      go_wp2_with fail
      refine (HLP.out _).mono ?_
      rintro e1 w9 ⟨rfl, h9⟩
      obtain rfl := h9.symm
      clear h9
      go_wp2_with fail
      refine HS1.out.mono ?_
      rintro e1 w2 ⟨rfl, hB2, hb2⟩
      have HB2 := Lib.hid hB2
      have HB02 := Lib.hid (HB1.out.trans hb2)
      clear hB2 hb2
      go_wp2_with fail
      refine (HUS.out _ _ _ _ _ _ HB2.out).mono ?_
      rintro e1 w3 ⟨rfl, hb3⟩
      have HB3 := Lib.hid (HB2.out.below hb3 HB2.out.lt)
      have HB03 := Lib.hid (HB02.out.trans (hb3.mono HB02.out.size))
      clear hb3
      go_wp2_with fail
      refine (HNG.out _ _ _).mono ?_
      rintro e1 w9 ⟨rfl, h9⟩
      obtain rfl := h9.symm
      clear h9
      go_wp2_with fail
      refine (ceil_calls _ _).mono ?_
      rintro e1 w9 ⟨rfl, h9⟩
      obtain rfl := h9.symm
      clear h9
      go_wp2_with fail
      refine (HUS.out _ _ _ _ _ _ HB3.out).mono ?_
      rintro e1 w4 ⟨rfl, hb4⟩
      have HB4 := Lib.hid (HB3.out.below hb4 HB3.out.lt)
      have HB04 := Lib.hid (HB03.out.trans (hb4.mono HB03.out.size))
      clear hb4
      go_wp2_with fail
      refine (HNG.out _ _ _).mono ?_
      rintro e1 w9 ⟨rfl, h9⟩
      obtain rfl := h9.symm
      clear h9
      go_wp2_with fail
      refine (floor_calls _ _).mono ?_
      rintro e1 w9 ⟨rfl, h9⟩
      obtain rfl := h9.symm
      clear h9
      go_wp2_with fail
      refine (HUS.out _ _ _ _ _ _ HB4.out).mono ?_
      rintro e1 w5 ⟨rfl, hb5⟩
      have HB05 := Lib.hid (HB04.out.trans (hb5.mono HB04.out.size))
      clear hb5
      go_wp2_with fail
      refine (HRN.out _ _).mono ?_
      rintro e1 w9 ⟨rfl, h9⟩
      obtain rfl := h9.symm
      clear h9
      go_wp2_with fail
      refine bodyPost_ret (v := .tuple #[.int .u64 (DM), .int .i64 (-P)]) (by simp [results, go_sem]) rfl ⟨rfl, HB05.out⟩
    · refine ⟨DN, -P, by omega, ?_⟩
      intro w hT
      have HT := Lib.hid hT
      clear hT
      go_enter Tryd.func47, Tryd.ntmps47
      go_wp2_with fail
      refine (HL.out _).mono ?_
      rintro e1 w1 ⟨rfl, h9⟩
      obtain rfl := h9.symm
      clear h9
      obtain ⟨w1, hw1⟩ : ∃ w1, w1 = w.alloc (.cells #[.int .u64 0, .int .u64 0, .int .i64 0] 100) := ⟨_, rfl⟩
      have hb1 : Below w.heap.size w w1 := by rw [hw1]; exact (Below.refl _ _).alloc (Nat.le_refl _) _
      have hB1 : Blk w1 w.heap.size 100 #[.int .u64 0, .int .u64 0, .int .i64 0] := by rw [hw1]; exact Blk.new _ _ _
      have HW1 := Lib.hid hw1
      have HB1 := Lib.hid hb1
      have HS1 := Lib.hid (HPS.out w1 w.heap.size _ _ _ (HT.out.below hb1 HT.out.lt) hB1 (Nat.ne_of_lt HT.out.lt))
      clear hw1 hb1 hB1
      go_upto_region 28 with fail
      rw [← HW1.out]
      go_wp2_with fail
      refine (HLP.out _).mono ?_
      rintro e1 w9 ⟨rfl, h9⟩
      obtain rfl := h9.symm
      clear h9
      go_wp2_with fail
      refine HS1.out.mono ?_
      rintro e1 w2 ⟨rfl, hB2, hb2⟩
      have HB2 := Lib.hid hB2
      have HB02 := Lib.hid (HB1.out.trans hb2)
      clear hB2 hb2
      go_wp2_with fail
      refine (HUS.out _ _ _ _ _ _ HB2.out).mono ?_
      rintro e1 w3 ⟨rfl, hb3⟩
      have HB3 := Lib.hid (HB2.out.below hb3 HB2.out.lt)
      have HB03 := Lib.hid (HB02.out.trans (hb3.mono HB02.out.size))
      clear hb3
      go_wp2_with fail
      refine (HNG.out _ _ _).mono ?_
      rintro e1 w9 ⟨rfl, h9⟩
      obtain rfl := h9.symm
      clear h9
      go_wp2_with fail
      refine (ceil_calls _ _).mono ?_
      rintro e1 w9 ⟨rfl, h9⟩
      obtain rfl := h9.symm
      clear h9
      go_wp2_with fail
      refine (HUS.out _ _ _ _ _ _ HB3.out).mono ?_
      rintro e1 w4 ⟨rfl, hb4⟩
      have HB4 := Lib.hid (HB3.out.below hb4 HB3.out.lt)
      have HB04 := Lib.hid (HB03.out.trans (hb4.mono HB03.out.size))
      clear hb4
      go_wp2_with fail
      refine (HNG.out _ _ _).mono ?_
      rintro e1 w9 ⟨rfl, h9⟩
      obtain rfl := h9.symm
      clear h9
      go_wp2_with fail
      refine (floor_calls _ _).mono ?_
      rintro e1 w9 ⟨rfl, h9⟩
      obtain rfl := h9.symm
      clear h9
      go_wp2_with fail
      refine bodyPost_ret (v := .tuple #[.int .u64 (DN), .int .i64 (-P)]) (by simp [results, go_sem]) rfl ⟨rfl, HB04.out⟩
/-- Any number. -/
theorem short_calls (T : Nat → Int) (m e : Int) (he : -1200 ≤ e ∧ e ≤ 1000) : ∃ d p : Int, (0 ≤ d ∧ d < 4611686018427387904 ∧ -400 ≤ p ∧ p ≤ 400) ∧ ∀ w, Tab T w → Calls Tryd.prog 47 #[.int .u64 m, .int .i64 e] w (SFPost w d p) := by
  by_cases h1 : m = 9223372036854775808
  · by_cases h2 : -1085 < e
    · exact short1 T m e he h1 h2
    · by_cases h3 : e = -1085
      · exact short3 T m e he h1 h3
      · exact short5 T m e he h1 (by omega)
  · by_cases h2 : -1085 ≤ e
    · exact short2 T m e he h1 h2
    · exact short4 T m e he h1 (by omega)
end Go.Proofs.YtpfgdfgifdbijaaDoor.ff
