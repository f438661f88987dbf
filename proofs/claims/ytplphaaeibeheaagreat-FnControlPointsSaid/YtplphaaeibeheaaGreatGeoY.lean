/-
  The walk of the law of control points.
-/
import Derived.Test.YtplphaaeibeheaaGreatGeoW
import Derived.Lib.QuietBelow
namespace Go.Proofs.YtplphaaeibeheaaGreat.geo
open Go.ChangeShapes Go.WideShapes Go.ChangeAt Go.RowKit
open Go.Proofs.YtplphaaeibeheaaGreat.mem
set_option linter.unusedVariables false
set_option linter.unusedSimpArgs false

set_option maxHeartbeats 8000000 in
set_option maxRecDepth 100000 in
theorem law_control (g : IG) (S : Nat → Prop) (w : World) (h : g.In S w) : Calls Tryz.prog 3 #[.agg g.enc.toArray] w (Gives w (.bool true)) := by
  obtain ⟨P, hP⟩ : ∃ P, P = g.plain := ⟨_, rfl⟩
  obtain ⟨w1, hw1⟩ : ∃ w1, w1 = w.alloc (.cells g.enc.toArray 25) := ⟨_, rfl⟩
  have hb1 : Below w.heap.size w w1 := by rw [hw1]; exact (Below.refl _ _).alloc (Nat.le_refl _) _
  have hX : Blk w1 w.heap.size 25 g.enc.toArray := by rw [hw1]; exact Blk.new _ _ _
  have h1 := IG.up hb1 h
  have HFC := Lib.hid (fits_calls g S w1 h1)
  have HKT := Lib.hid (show kOk P → ∀ w', Below w1.heap.size w1 w' → Calls Tryz.prog 7 #[.agg g.enc.toArray] w' (fun e w'' => e = .returned (.bool true) ∧ Below w1.heap.size w1 w'') from fun hk w' hb => by
    rw [hP] at hk
    refine (kany_calls g S w' (IG.up hb h1)).mono ?_
    rintro e w'' ⟨b, he, h2, h3⟩
    rw [h2.2 hk] at he
    exact ⟨he, hb.trans (h3.mono hb.size)⟩)
  have HKF := Lib.hid (show ¬ kOk P → ∀ w', Below w1.heap.size w1 w' → Calls Tryz.prog 7 #[.agg g.enc.toArray] w' (fun e w'' => e = .returned (.bool false) ∧ Below w'.heap.size w' w'') from fun hk w' hb => by
    rw [hP] at hk
    refine (kany_calls g S w' (IG.up hb h1)).mono ?_
    rintro e w'' ⟨b, he, h2, h3⟩
    have hbf : b = false := by
      cases b with
      | false => rfl
      | true => exact absurd (h2.1 rfl) hk
    rw [hbf] at he
    exact ⟨he, h3⟩)
  have HCC := Lib.hid (show P.tot ≤ 600 → ∀ w', Below w1.heap.size w1 w' → Calls Tryz.prog 8 #[.agg g.enc.toArray] w' (fun e w'' => e = .returned (.int .i64 P.new.ctl) ∧ Below w1.heap.size w1 w'' ∧ Below w'.heap.size w' w'') from fun ht w' hb => by
    rw [hP] at ht ⊢
    refine (implControl_calls g (IG.up hb h1) (tot_small ht)).mono ?_
    rintro e w'' ⟨he, h3⟩
    exact ⟨he, hb.trans (h3.mono hb.size), h3⟩)
  have HNC := Lib.hid (show P.tot ≤ 600 → ∀ w', Below w1.heap.size w1 w' → Calls Tryz.prog 10 #[.agg g.enc.toArray] w' (fun e w'' => ∃ g2 : IG, e = .returned (.agg g2.enc.toArray) ∧ g2.In (fun _ => True) w'' ∧ g2.plain = P.new ∧ Below w1.heap.size w1 w'') from fun ht w' hb => by
    rw [hP] at ht ⊢
    refine (snew_calls g S w' (IG.up hb h1) (fit_small (tot_small ht))).mono ?_
    rintro e w'' ⟨g2, he, h2, h3, h4⟩
    exact ⟨g2, he, IG.less (fun _ _ => trivial) h2, h3, hb.trans (h4.mono hb.size)⟩)
  have HTC := Lib.hid (show P.tot ≤ 600 → ∀ (g2 : IG) w', g2.In (fun _ => True) w' → g2.plain = P.new → Below w1.heap.size w1 w' → Calls Tryz.prog 9 #[.agg g2.enc.toArray] w' (fun e w'' => e = .returned (.int .i64 P.new.ctl) ∧ Below w1.heap.size w1 w'') from fun ht g2 w' h2 hp hb => by
    rw [hP] at ht hp ⊢
    refine (controls_calls g2 _ w' h2 (by rw [hp]; exact new_good) (by rw [hp]; exact new_fit (fit_small (tot_small ht)))).mono ?_
    rintro e w'' ⟨he, h3⟩
    rw [hp] at he
    exact ⟨he, hb.trans (h3.mono hb.size)⟩)
  have HPC := Lib.hid (show ∀ w', Below w1.heap.size w1 w' → Calls Tryz.prog 8 #[.agg #[.int .i64 1, .int .i64 0, .slice none 0 0, .slice none 0 0]] w' (fun e w'' => e = .returned (.int .i64 1) ∧ Below w1.heap.size w1 w'') from fun w' hb => by
    refine (pointCtl_calls w').mono ?_
    rintro e w'' ⟨he, h3⟩
    exact ⟨he, hb.trans (h3.mono hb.size)⟩)
  clear h h1 hP
  obtain ⟨k, d, A, ca, ns, B, cb, kids⟩ := g
  rw [show (IG.mk k d A ca ns B cb kids).enc.toArray = #[.int .i64 k, .int .i64 d, .slice A ns.length ca, .slice B kids.length cb] from rfl] at HFC HKT HKF HCC HNC hX hw1 ⊢
  obtain ⟨x0, x1, x2, x3, -, -, -, -, xl⟩ := cells4 hX
  have HX := Lib.hid (fun w' (hb : Below w1.heap.size w1 w') => cells4 (hX.below hb hX.lt))
  have HB1 := Lib.hid hb1
  have HW1 := Lib.hid hw1
  clear hX hb1 hw1
  obtain ⟨v, hv⟩ : ∃ v, v = P.new.ctl := ⟨_, rfl⟩
  rw [← hv] at HCC HTC
  clear hv
  go_enter Tryz.func3, Tryz.ntmps3
  go_wp2_with fail
  rw [← HW1.out]
  refine HFC.out.mono ?_
  rintro e w2 ⟨b, rfl, hb2⟩
  have HB2 := Lib.hid hb2
  clear x0 x1 x2 x3 xl
  cases b with
  | false =>
    clear hb2
    go_wp2_with fail
    exact bodyPost_ret (v := .bool true) (by simp [results, go_sem]) rfl ⟨rfl, HB1.out.trans (HB2.out.mono HB1.out.size)⟩
  | true =>
    obtain ⟨x0, x1, x2, x3, -, -, -, -, xl⟩ := HX.out w2 hb2
    go_wp2_with fail
    have x0d : w2.drew.cell? ⟨w.heap.size, 0, none⟩ = some (.int .i64 k) := x0
    have x1d : w2.drew.cell? ⟨w.heap.size, 1, none⟩ = some (.int .i64 d) := x1
    have x2d : w2.drew.cell? ⟨w.heap.size, 2, none⟩ = some (.slice A ns.length ca) := x2
    have x3d : w2.drew.cell? ⟨w.heap.size, 3, none⟩ = some (.slice B kids.length cb) := x3
    clear hb2
    by_cases hk : kOk P
    · have HKT2 := Lib.hid (HKT.out hk)
      have HCC2 := Lib.hid (HCC.out hk.2.1)
      have HNC2 := Lib.hid (HNC.out hk.2.1)
      have HTC2 := Lib.hid (HTC.out hk.2.1)
      clear HKT HCC HNC HTC HKF hk
      go_region_law (first
        | (go_simp; go_at_call 7; refine (HKT2.out _ (by first | exact HB2.out | exact HB2.out.drew)).mono ?_
           rintro e3 w3 ⟨rfl, hb3⟩
           obtain ⟨x0, x1, x2, x3, -, -, -, -, xl⟩ := HX.out w3 hb3)
        | (go_simp; go_at_call 8; refine (HCC2.out _ (by assumption)).mono ?_
           rintro e4 w4 ⟨rfl, hb4, hc4⟩
           obtain ⟨x0, x1, x2, x3, -, -, -, -, xl⟩ := HX.out w4 hb4)
        | (go_simp; go_at_call 10; refine (HNC2.out _ (by assumption)).mono ?_
           rintro e5 w5 ⟨⟨k2, d2, A2, ca2, ns2, B2, cb2, ks2⟩, rfl, h5, hp5, hb5⟩
           obtain ⟨x0, x1, x2, x3, -, -, -, -, xl⟩ := HX.out w5 hb5
           rw [show (IG.mk k2 d2 A2 ca2 ns2 B2 cb2 ks2).enc.toArray = #[.int .i64 k2, .int .i64 d2, .slice A2 ns2.length ca2, .slice B2 ks2.length cb2] from rfl]
           try dsimp only)
        | (go_simp; go_at_call 9; refine (HTC2.out (IG.mk k2 d2 A2 ca2 ns2 B2 cb2 ks2) _ (by first | exact h5 | exact IG.up (by assumption) h5) hp5 (by assumption)).mono ?_
           rintro e6 w6 ⟨rfl, hb6⟩
           obtain ⟨x0, x1, x2, x3, -, -, -, -, xl⟩ := HX.out w6 hb6)
        | (go_simp; go_at_call 8; refine (HPC.out _ (by assumption)).mono ?_
           rintro e7 w7 ⟨rfl, hb7⟩))
      all_goals
        go_wp2_with fail
        exact bodyPost_ret (v := .bool true) (by simp [results, go_sem]) rfl ⟨rfl, HB1.out.trans (hb7.mono HB1.out.size)⟩
    · have f0 := cell_regrown x0
      have f1 := cell_regrown x1
      have f2 := cell_regrown x2
      have f3 := cell_regrown x3
      have HKF2 := Lib.hid (fun d os => Calls.regrown_of (HKF.out hk (Go.Sort.grow (redrawn w2 d) os) (HB2.out.trans ((below_regrown w2 d os).mono HB2.out.size))))
      clear HKT HCC HNC HTC HKF hk x0 x1 x2 x3 x0d x1d x2d x3d
      refine wp_region_quiet_below (by kernel_rfl) (by kernel_rfl) ?_
      go_big_quiet_step (fail)
      go_big_quiet_step (exact HKF2.out _ _)
      iterate 15 (go_big_quiet_step (fail))
      refine wpQuiet_nil ?_
      intro _ hw'
      obtain ⟨⟨dq, osq⟩, hw''⟩ := hw'
      subst hw''
      have HBQ := Lib.hid (below_regrown w2 dq osq)
      go_wp2_with fail
      exact bodyPost_ret (v := .bool true) (by simp [results, go_sem]) rfl ⟨rfl, HB1.out.trans ((HB2.out.trans (HBQ.out.mono HB2.out.size)).mono HB1.out.size)⟩
end Go.Proofs.YtplphaaeibeheaaGreat.geo
