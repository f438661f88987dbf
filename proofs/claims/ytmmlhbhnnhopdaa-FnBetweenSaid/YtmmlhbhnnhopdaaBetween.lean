/-
  The law FnBetween.
-/
import Derived.Test.YtmmlhbhnnhopdaaBetE
namespace Go.Proofs.Ytmmlhbhnnhopdaa.bet
open Go.ChangeShapes Go.WideShapes Go.ChangeAt Go.RowKit
open Go.Proofs.Ytmmlhbhnnhopdaa.mem Go.Proofs.Ytmmlhbhnnhopdaa.flt Go.Proofs.Ytmmlhbhnnhopdaa.betp
set_option linter.unusedVariables false
set_option linter.unusedSimpArgs false

theorem same_order {a b : Nat} {n : Int} (ha : FV a n) (hb : FV b n) : FloatKind.f64.format.order a b = some .eq := by
  have := order_FV ha hb
  rw [cmp_eq rfl] at this; exact this

theorem div_j (j : Int) (hj : 0 ≤ j ∧ j ≤ 64) : ∃ F, floatBits .quo .f64 (floatOfInt .f64 j) 4634204016564240384 = some F ∧ FV F (j * 2 ^ E1068) := by
  have fj := fi_FV j (by rw [p53]; omega)
  exact div_FV (Q := j * 2 ^ E1068) fj w64_FV (Int.mul_ne_zero (by decide) (Int.ne_of_gt (Int.pow_pos (by decide)))) (div64 _) (rep68 _ (by rw [p53]; omega))

set_option maxHeartbeats 8000000 in
theorem walk (x y z m X Y Z M : Nat) (d D j : Int) (hj : -9223372036854775808 ≤ j ∧ j ≤ 9223372036854775807) (w : World) :
    Calls Try.prog 4 #[.agg #[.float .f64 x, .float .f64 y, .float .f64 z, .float .f64 m, .int .i64 d], .agg #[.float .f64 X, .float .f64 Y, .float .f64 Z, .float .f64 M, .int .i64 D], .int .i64 j] w fun e w' =>
      e = .returned (.bool true) ∧ Below w.heap.size w w' := by
  obtain ⟨wA, hwA⟩ : ∃ wA, wA = ((w.alloc (.cells #[.float .f64 x, .float .f64 y, .float .f64 z, .float .f64 m, .int .i64 d] 36)).alloc
    (.cells #[.float .f64 X, .float .f64 Y, .float .f64 Z, .float .f64 M, .int .i64 D] 36)).alloc (.cells #[.int .i64 j] 3) := ⟨_, rfl⟩
  have hB : Blk wA w.heap.size 36 #[.float .f64 x, .float .f64 y, .float .f64 z, .float .f64 m, .int .i64 d] := by
    rw [hwA]; exact ((Blk.new _ _ _).alloc _).alloc _
  have hC : Blk wA (w.heap.size + 1) 36 #[.float .f64 X, .float .f64 Y, .float .f64 Z, .float .f64 M, .int .i64 D] := by
    rw [hwA]
    have := Blk.new (w.alloc (.cells #[.float .f64 x, .float .f64 y, .float .f64 z, .float .f64 m, .int .i64 d] 36)) 36 #[.float .f64 X, .float .f64 Y, .float .f64 Z, .float .f64 M, .int .i64 D]
    rw [show (w.alloc (.cells #[.float .f64 x, .float .f64 y, .float .f64 z, .float .f64 m, .int .i64 d] 36)).heap.size = w.heap.size + 1 by simp] at this
    exact this.alloc _
  have hD : Blk wA (w.heap.size + 1 + 1) 3 #[.int .i64 j] := by
    rw [hwA]
    have := Blk.new ((w.alloc (.cells #[.float .f64 x, .float .f64 y, .float .f64 z, .float .f64 m, .int .i64 d] 36)).alloc
      (.cells #[.float .f64 X, .float .f64 Y, .float .f64 Z, .float .f64 M, .int .i64 D] 36)) 3 #[.int .i64 j]
    simpa using this
  have hbl : Below w.heap.size w wA := by
    rw [hwA]
    exact (((Below.refl _ _).alloc (Nat.le_refl _) _).alloc (by simp) _).alloc (by simp; omega) _
  have HWA := Lib.hid hwA
  have HB := Lib.hid hB
  have HC := Lib.hid hC
  have HD := Lib.hid hD
  have HBL := Lib.hid hbl
  clear hwA hB hC hD hbl
  go_enter Try.func4, Try.ntmps4
  go_wp2_with fail
  rw [← HWA.out]
  refine (between_calls _ _ _ _ _ _ _ _ _ _ _).mono ?_
  rintro e w1 ⟨t, rfl, ht, hb1⟩
  have hbl1 : Below w.heap.size w w1 := HBL.out.trans (hb1.mono HBL.out.size)
  have HBL1 := Lib.hid hbl1
  have HB1 := Lib.hid (HB.out.below hb1 HB.out.lt)
  have HC1 := Lib.hid (HC.out.below hb1 HC.out.lt)
  have HD1 := Lib.hid (HD.out.below hb1 HD.out.lt)
  have HT := Lib.hid ht
  have jc : w1.cell? ⟨w.heap.size + 1 + 1, 0, none⟩ = some (.int .i64 j) := HD1.out.cell 0
  clear HB HC HD HBL HWA hb1 hbl1 ht
  cases t
  · go_wp2_with fail
    go_ret
    exact ⟨rfl, HBL1.out⟩
  by_cases hj0 : j < 0
  · go_wp2_with fail
    go_ret
    exact ⟨rfl, HBL1.out⟩
  by_cases hj1 : 64 < j
  · go_wp2_with fail
    go_ret
    exact ⟨rfl, HBL1.out⟩
  have hjj : 0 ≤ j ∧ j ≤ 64 := by omega
  obtain ⟨⟨⟨x', hx⟩, ⟨y', hy⟩, ⟨z', hz⟩, ⟨m', hm⟩, ⟨X', hX⟩, ⟨Y', hY⟩, ⟨Z', hZ⟩, ⟨M', hM⟩⟩, rfl, hd0, hd3⟩ := HT.out (by first | rfl | trivial)
  obtain ⟨F, hF, fF⟩ := div_j j hjj
  have hrF := fun w => run_float_arith (P := Try.prog) w .quo 34 .f64 (floatOfInt .f64 j) 4634204016564240384 F hF
  obtain ⟨r1, r2, r3, r4, f1, f2, f3, f4, hin⟩ := interp_calls x y z m X Y Z M F x' y' z' m' X' Y' Z' M' j d ⟨hd0, hd3⟩ hx hy hz hm hX hY hZ hM fF hjj
  have hway := fun w => way_calls x y z m X Y Z M F r1 r2 r3 r4 d ⟨hd0, hd3⟩ w hin
  obtain ⟨a1, g1, k1⟩ := at_calls x X (w.heap.size + 1 + 1) x' X' j hx hX hjj
  obtain ⟨a2, g2, k2⟩ := at_calls y Y (w.heap.size + 1 + 1) y' Y' j hy hY hjj
  obtain ⟨a3, g3, k3⟩ := at_calls z Z (w.heap.size + 1 + 1) z' Z' j hz hZ hjj
  obtain ⟨a4, g4, k4⟩ := at_calls m M (w.heap.size + 1 + 1) m' M' j hm hM hjj
  have o1 := same_order f1 g1
  have o2 := same_order f2 g2
  have o3 := same_order f3 g3
  have o4 := same_order f4 g4
  clear f1 f2 f3 f4 g1 g2 g3 g4 hx hy hz hm hX hY hZ hM fF hF HT hin
  obtain ⟨b0, b1, b2, b3, b4, -, -, -, -, -, -⟩ := cells5 HB1.out
  obtain ⟨c0, c1, c2, c3, c4, -, -, -, -, -, -⟩ := cells5 HC1.out
  have O1 := Lib.hid o1
  have O2 := Lib.hid o2
  have O3 := Lib.hid o3
  have O4 := Lib.hid o4
  have K1 := Lib.hid k1
  have K2 := Lib.hid k2
  have K3 := Lib.hid k3
  have K4 := Lib.hid k4
  clear o1 o2 o3 o4 k1 k2 k3 k4
  go_wp2_with fail
  refine (hway _).mono ?_
  rintro e w2 ⟨rfl, hb2⟩
  have HBL2 := Lib.hid (HBL1.out.trans (hb2.mono HBL1.out.size))
  have HB2 := Lib.hid (HB1.out.below hb2 HB1.out.lt)
  have HC2 := Lib.hid (HC1.out.below hb2 HC1.out.lt)
  have HD2 := Lib.hid (HD1.out.below hb2 HD1.out.lt)
  clear b0 b1 b2 b3 b4 c0 c1 c2 c3 c4 jc hb2 hrF hway HB1 HC1 HD1 HBL1
  obtain ⟨b0, b1, b2, b3, b4, -, -, -, -, -, bl⟩ := cells5 HB2.out
  obtain ⟨c0, c1, c2, c3, c4, -, -, -, -, -, cl⟩ := cells5 HC2.out
  have jc : w2.cell? ⟨w.heap.size + 1 + 1, 0, none⟩ = some (.int .i64 j) := HD2.out.cell 0
  obtain ⟨w3, hw3⟩ : ∃ w3, w3 = w2.alloc (.cells #[.float .f64 r1, .float .f64 r2, .float .f64 r3, .float .f64 r4, .int .i64 d] 36) := ⟨_, rfl⟩
  have hE : Blk w3 w2.heap.size 36 #[.float .f64 r1, .float .f64 r2, .float .f64 r3, .float .f64 r4, .int .i64 d] := by rw [hw3]; exact Blk.new _ _ _
  have hB3 : Blk w3 w.heap.size 36 #[.float .f64 x, .float .f64 y, .float .f64 z, .float .f64 m, .int .i64 d] := by rw [hw3]; exact HB2.out.alloc _
  have hC3 : Blk w3 (w.heap.size + 1) 36 #[.float .f64 X, .float .f64 Y, .float .f64 Z, .float .f64 M, .int .i64 d] := by rw [hw3]; exact HC2.out.alloc _
  have hD3 : Blk w3 (w.heap.size + 1 + 1) 3 #[.int .i64 j] := by rw [hw3]; exact HD2.out.alloc _
  have hbl3 : Below w.heap.size w w3 := by rw [hw3]; exact HBL2.out.alloc HBL2.out.size _
  obtain ⟨s0, s1, s2, s3, s4, -, -, -, -, -, sl⟩ := cells5 hB3
  obtain ⟨t0, t1, t2, t3, t4, -, -, -, -, -, tl⟩ := cells5 hC3
  obtain ⟨u0, u1, u2, u3, u4, -, -, -, -, -, ul⟩ := cells5 hE
  have jc3 : w3.cell? ⟨w.heap.size + 1 + 1, 0, none⟩ = some (.int .i64 j) := hD3.cell 0
  have JC := Lib.hid (fun n => (show (w3.drewN n).cell? ⟨w.heap.size + 1 + 1, 0, none⟩ = some (.int .i64 j) from jc3))
  have HW3 := Lib.hid hw3
  have HBL3 := Lib.hid hbl3
  clear hw3 hE hB3 hC3 hD3 hbl3 HD2 HBL2 HB2 HC2
  have S3 := Lib.hid (show _ ∧ _ ∧ _ ∧ _ ∧ _ from ⟨s0, s1, s2, s3, s4⟩)
  have T3 := Lib.hid (show _ ∧ _ ∧ _ ∧ _ ∧ _ from ⟨t0, t1, t2, t3, t4⟩)
  have U3 := Lib.hid (show _ ∧ _ ∧ _ ∧ _ ∧ _ from ⟨u0, u1, u2, u3, u4⟩)
  clear s0 s1 s2 s3 s4 t0 t1 t2 t3 t4 u0 u1 u2 u3 u4
  rcases (by omega : d = 0 ∨ d = 1 ∨ d = 2 ∨ d = 3) with rfl | rfl | rfl | rfl
  · go_wp2_with fail
    rw [← HW3.out]
    clear b0 b1 b2 b3 b4 c0 c1 c2 c3 c4 jc bl cl jc3 sl tl ul
    obtain ⟨s0, s1, s2, s3, s4⟩ := S3.out
    obtain ⟨t0, t1, t2, t3, t4⟩ := T3.out
    obtain ⟨u0, u1, u2, u3, u4⟩ := U3.out
    have o1 := O1.out
    have o2 := O2.out
    have o3 := O3.out
    have o4 := O4.out
    refine wp_region_quiet_lit (by kernel_rfl) (by kernel_rfl) ?_
    repeat (go_big_quiet_step (fail))
    go_big_quiet_step ((go_at_call 11; exact Calls.quiet_of_same (K1.out _ (JC.out _))))
    repeat (go_big_quiet_step (fail))
    go_big_quiet_step ((go_at_call 11; exact Calls.quiet_of_same (K2.out _ (JC.out _))))
    repeat (go_big_quiet_step (fail))
    refine wpQuiet_nil ?_
    intro _ hw'
    obtain ⟨nq, hw''⟩ := hw'
    subst hw''
    go_wp2_with fail
    go_ret
    exact ⟨rfl, HBL3.out.trans (drewN_below _ _ _)⟩
  · go_wp2_with fail
    rw [← HW3.out]
    clear b0 b1 b2 b3 b4 c0 c1 c2 c3 c4 jc bl cl jc3 sl tl ul
    obtain ⟨s0, s1, s2, s3, s4⟩ := S3.out
    obtain ⟨t0, t1, t2, t3, t4⟩ := T3.out
    obtain ⟨u0, u1, u2, u3, u4⟩ := U3.out
    have o1 := O1.out
    have o2 := O2.out
    have o3 := O3.out
    have o4 := O4.out
    refine wp_region_quiet_lit (by kernel_rfl) (by kernel_rfl) ?_
    repeat (go_big_quiet_step (fail))
    go_big_quiet_step ((go_at_call 11; exact Calls.quiet_of_same (K1.out _ (JC.out _))))
    repeat (go_big_quiet_step (fail))
    go_big_quiet_step ((go_at_call 11; exact Calls.quiet_of_same (K2.out _ (JC.out _))))
    repeat (go_big_quiet_step (fail))
    go_big_quiet_step ((go_at_call 11; exact Calls.quiet_of_same (K3.out _ (JC.out _))))
    repeat (go_big_quiet_step (fail))
    refine wpQuiet_nil ?_
    intro _ hw'
    obtain ⟨nq, hw''⟩ := hw'
    subst hw''
    go_wp2_with fail
    go_ret
    exact ⟨rfl, HBL3.out.trans (drewN_below _ _ _)⟩
  · go_wp2_with fail
    rw [← HW3.out]
    clear b0 b1 b2 b3 b4 c0 c1 c2 c3 c4 jc bl cl jc3 sl tl ul
    obtain ⟨s0, s1, s2, s3, s4⟩ := S3.out
    obtain ⟨t0, t1, t2, t3, t4⟩ := T3.out
    obtain ⟨u0, u1, u2, u3, u4⟩ := U3.out
    have o1 := O1.out
    have o2 := O2.out
    have o3 := O3.out
    have o4 := O4.out
    refine wp_region_quiet_lit (by kernel_rfl) (by kernel_rfl) ?_
    repeat (go_big_quiet_step (fail))
    go_big_quiet_step ((go_at_call 11; exact Calls.quiet_of_same (K1.out _ (JC.out _))))
    repeat (go_big_quiet_step (fail))
    go_big_quiet_step ((go_at_call 11; exact Calls.quiet_of_same (K2.out _ (JC.out _))))
    repeat (go_big_quiet_step (fail))
    go_big_quiet_step ((go_at_call 11; exact Calls.quiet_of_same (K4.out _ (JC.out _))))
    repeat (go_big_quiet_step (fail))
    refine wpQuiet_nil ?_
    intro _ hw'
    obtain ⟨nq, hw''⟩ := hw'
    subst hw''
    go_wp2_with fail
    go_ret
    exact ⟨rfl, HBL3.out.trans (drewN_below _ _ _)⟩
  · go_wp2_with fail
    rw [← HW3.out]
    clear b0 b1 b2 b3 b4 c0 c1 c2 c3 c4 jc bl cl jc3 sl tl ul
    obtain ⟨s0, s1, s2, s3, s4⟩ := S3.out
    obtain ⟨t0, t1, t2, t3, t4⟩ := T3.out
    obtain ⟨u0, u1, u2, u3, u4⟩ := U3.out
    have o1 := O1.out
    have o2 := O2.out
    have o3 := O3.out
    have o4 := O4.out
    refine wp_region_quiet_lit (by kernel_rfl) (by kernel_rfl) ?_
    repeat (go_big_quiet_step (fail))
    go_big_quiet_step ((go_at_call 11; exact Calls.quiet_of_same (K1.out _ (JC.out _))))
    repeat (go_big_quiet_step (fail))
    go_big_quiet_step ((go_at_call 11; exact Calls.quiet_of_same (K2.out _ (JC.out _))))
    repeat (go_big_quiet_step (fail))
    go_big_quiet_step ((go_at_call 11; exact Calls.quiet_of_same (K3.out _ (JC.out _))))
    repeat (go_big_quiet_step (fail))
    go_big_quiet_step ((go_at_call 11; exact Calls.quiet_of_same (K4.out _ (JC.out _))))
    repeat (go_big_quiet_step (fail))
    refine wpQuiet_nil ?_
    intro _ hw'
    obtain ⟨nq, hw''⟩ := hw'
    subst hw''
    go_wp2_with fail
    go_ret
    exact ⟨rfl, HBL3.out.trans (drewN_below _ _ _)⟩

theorem own : ownKnob Try.prog.godebug = none := by kernel_rfl
theorem laidOut : laidOutB Try.prog = true := by kernel_rfl
theorem cells5_ : Try.prog.cellsOf 36 = 5 := by kernel_rfl

theorem trod_float {H : Type} {enc : TypeId × Value → H} {W : World} {base fuel : Nat} {spare : Nat → Bool} {held : Bool} {c : Value} {y : DataW H × List MemPlace}
    (h : DataW.trod enc Try.prog W base spare held fuel 34 [c] = some y) : ∃ b, c = .float .f64 b := by
  cases fuel with
  | zero => simp [DataW.trod] at h
  | succ n =>
    simp only [DataW.trod, Try.underlying34] at h
    cases c <;> simp at h
    obtain ⟨⟨rfl, _⟩, _⟩ := h
    exact ⟨_, rfl⟩

theorem open_coords {H : Type} {enc : TypeId × Value → H} {W : World} {base b0 : Nat} {r : Reach} {spare : Nat → Bool} {held : Bool} {v : Value} {d : DataW H} {p : List MemPlace}
    (hv : Value.okWide Try.prog W r b0 36 v) (h : DataW.Trod enc Try.prog W base spare held 36 v d p) :
    ∃ (x y z m : Nat) (k : Int), v = .agg #[.float .f64 x, .float .f64 y, .float .f64 z, .float .f64 m, .int .i64 k] := by
  simp only [Value.okWide, Try.underlying36] at hv
  obtain ⟨cs, rfl, hsz, _⟩ := hv
  rw [cells5_] at hsz
  obtain ⟨l⟩ := cs
  match l, hsz with
  | [c0, c1, c2, c3, c4], _ =>
    obtain ⟨fuel, hf⟩ := h
    obtain ⟨xs, m, _, _, _, hl, hi⟩ := DataW.trod_struct Try.underlying36 hf
    have h0 := hi 0 _ rfl
    have h1 := hi 1 _ rfl
    have h2 := hi 2 _ rfl
    have h3 := hi 3 _ rfl
    have h4 := hi 4 _ rfl
    match xs, hl with
    | [y0, y1, y2, y3, y4], _ =>
      obtain ⟨x, rfl⟩ := trod_float (show DataW.trod enc Try.prog W base spare held m 34 [c0] = some y0 from h0)
      obtain ⟨y, rfl⟩ := trod_float (show DataW.trod enc Try.prog W base spare held m 34 [c1] = some y1 from h1)
      obtain ⟨z, rfl⟩ := trod_float (show DataW.trod enc Try.prog W base spare held m 34 [c2] = some y2 from h2)
      obtain ⟨u, rfl⟩ := trod_float (show DataW.trod enc Try.prog W base spare held m 34 [c3] = some y3 from h3)
      obtain ⟨k, hk, _, _⟩ := DataW.trod_int Try.underlying3 (show DataW.trod enc Try.prog W base spare held m 3 [c4] = some y4 from h4)
      simp at hk
      subst hk
      exact ⟨x, y, z, u, k, rfl⟩

theorem proved : Rows.FnBetweenSaid :=
  OpenClaim.holds_of_wide 4 Try.f4 rfl rfl rfl rfl rfl rfl rfl ⟨rfl, rfl, rfl, rfl, rfl⟩ rfl rfl rfl rfl rfl (by kernel_rfl) Try.func4 (by kernel_rfl)
    (of_decide_eq_true (by kernel_rfl)) (by unfold Func.isWrapper; first | (rw [if_pos (by decide +kernel)]; kernel_rfl) | (rw [if_neg (by decide +kernel)]; exact ⟨rfl, rfl⟩))
    (fun os started H enc _ => lift.handed (C := Try.checked) (s := Rows.fnBetweenSpec) own started (by kernel_rfl) Try.func4 laidOut (tb := 4) rfl Try.underlying4 rfl
      (fun t ht => of_decide_eq_true (List.all_eq_true.1 (show (Try.f4.params.toList.all fun t => decide (Try.prog.readableRec t = true ∧ t < Try.prog.types.size)) = true by kernel_rfl) t ht))
      (fun ds h => by match ds, h with | [_, _, _], _ => rfl)
      (ChangeSpec.witness6 (enc := enc) (C := Try.checked) false ⟨#[], #[.agg #[.float .f64 0, .float .f64 0, .float .f64 0, .float .f64 0, .int .i64 0], .agg #[.float .f64 0, .float .f64 0, .float .f64 0, .float .f64 0, .int .i64 0], .int .i64 0], []⟩ 8 (by kernel_rfl) (by kernel_rfl) (by kernel_rfl) (by kernel_rfl))
      (fun W args ds ⟨⟨base, hval0⟩, ⟨p, hA0⟩⟩ => by
        have hval : ∀ (j : Nat) t v, Try.f4.params[j]? = some t → args[j]? = some v → Value.okWide Try.prog W .any base t v := hval0
        have hA : DataW.TrodAll enc Try.prog W 0 (fun _ => true) true Try.f4.params.toList args.toList ds p := hA0
        rw [Try.params4] at hA hval
        obtain ⟨v0, v1, v2, d0, d1, d2, p0, p1, p2, rfl, rfl, rfl, h0, h1, h2⟩ := trodAll_three hA
        obtain ⟨x, y, z, m, d, rfl⟩ := open_coords (hval 0 _ v0 rfl rfl) h0
        obtain ⟨X, Y, Z, M, D, rfl⟩ := open_coords (hval 1 _ v1 rfl rfl) h1
        obtain ⟨q, rfl, rfl, rfl, wq⟩ := open_int Try.underlying3 (hval 2 _ v2 rfl rfl) h2
        exact walk x y z m X Y Z M d D q (i64_bounds wq) W))
#print axioms proved
end Go.Proofs.Ytmmlhbhnnhopdaa.bet
