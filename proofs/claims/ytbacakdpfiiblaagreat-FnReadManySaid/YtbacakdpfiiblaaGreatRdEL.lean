/-
  Contract of the reader of the reference: a geometry: a line, or none
-/
import Derived.Test.YtbacakdpfiiblaaGreatRdE
namespace Go.Proofs.YtbacakdpfiiblaaGreat.geo
open Go.ChangeShapes Go.WideShapes Go.ChangeAt Go.RowKit
open Go.Proofs.YtbacakdpfiiblaaGreat.mem
set_option linter.unusedVariables false
set_option linter.unusedSimpArgs false

set_option maxHeartbeats 16000000 in
set_option maxRecDepth 100000 in
theorem geom_ln (S : Nat → Prop) (any : Bool) (fuel : Nat) (ih : ∀ (w : World) (R : Nat) (l : List Nat) (kind : Int), RS S w R any (some l) → l.length < fuel → Calls Tryz.prog 48 #[.pointer (some ⟨R, 0, none⟩), .int .i64 kind] w (GPost S w R any (rdG any fuel kind l)))
    (w : World) (R : Nat) (l : List Nat) (kind : Int) (h : RS S w R any (some l)) (hf : l.length < fuel + 1) (hsel : ∀ b K D r, rdH any kind l = some ((b, K, D), r) → K = 2) :
    Calls Tryz.prog 48 #[.pointer (some ⟨R, 0, none⟩), .int .i64 kind] w (GPost S w R any (rdG any (fuel + 1) kind l)) := by
  have HIH := Lib.hid ih
  have HSEL := Lib.hid hsel
  clear hsel
  obtain ⟨o, ho⟩ : ∃ o, o = rdG any (fuel + 1) kind l := ⟨_, rfl⟩
  rw [← ho]
  have HO := Lib.hid (ho.trans (rdG_eq any fuel kind l))
  clear ho
  obtain ⟨w1, hw1⟩ : ∃ w1, w1 = w.alloc (.cells #[.int .i64 0, .int .i64 0, .slice none 0 0, .slice none 0 0] 25) := ⟨_, rfl⟩
  have hb1 : Below w.heap.size w w1 := by rw [hw1]; exact (Below.refl _ _).alloc (Nat.le_refl _) _
  have h1 := h.below hb1
  have HU1 := Lib.hid (uint_calls h1 1 (by omega) false)
  have HW1 := Lib.hid hw1
  have HR1 := Lib.hid h1
  have HZ1 := Lib.hid (show Blk w1 w.heap.size 25 #[.int .i64 0, .int .i64 0, .slice none 0 0, .slice none 0 0] by rw [hw1]; exact Blk.new _ _ _)
  have HB1 := Lib.hid hb1
  have hRw := h.lt
  have HBY := Lib.hid h.byt
  have HF := Lib.hid hf
  clear ih hw1 hb1 h1 h hf
  go_enter Tryz.func48, Tryz.ntmps48
  go_wp2_with fail
  rw [← HW1.out]
  refine HU1.out.mono ?_
  rintro e w2 ⟨x1, rfl, hg2, hx1⟩
  have HG2 := Lib.hid hg2
  obtain ⟨st1, hst1, hrs1⟩ : ∃ st1 : Option (List Nat), (match rdU 1 false l with | none => x1 = 0 ∧ st1 = none | some (y, r) => x1 = y ∧ st1 = some r) ∧ RS S w2 R any st1 := by
    cases hu : rdU 1 false l with
    | none =>
      rw [show (some l).bind (rdU 1 false) = none from hu] at hx1
      exact ⟨none, ⟨hx1.1, rfl⟩, hx1.2⟩
    | some p =>
      rw [show (some l).bind (rdU 1 false) = some p from hu] at hx1
      exact ⟨some p.2, ⟨hx1.1, rfl⟩, hx1.2⟩
  have HS1 := Lib.hid hst1
  have HU2 := Lib.hid (fun b => uint_calls hrs1 4 (by omega) b)
  have HRS1 := Lib.hid hrs1
  clear hg2 hx1 hst1 hrs1 HU1
  obtain ⟨bg, hbg⟩ : ∃ bg, bg = ((x1 : Int) == 0) := ⟨_, rfl⟩
  have hbg2 : bg = (x1 == 0) := by
    rw [hbg, Bool.eq_iff_iff, beq_iff_eq, beq_iff_eq]; omega
  have HBG := Lib.hid hbg2
  have HBQ := Lib.hid hbg
  go_wp2_with fail
  rw [← hbg]
  clear hbg2 hbg
  refine (HU2.out _).mono ?_
  rintro e w3 ⟨x2, rfl, hg3, hx2⟩
  obtain ⟨st2, hst2, hrs2, hx24⟩ : ∃ st2 : Option (List Nat), (match st1.bind (rdU 4 (x1 == 0)) with | none => x2 = 0 ∧ st2 = none | some (y, r) => x2 = y ∧ st2 = some r) ∧ RS S w3 R any st2 ∧ x2 < 4294967296 := by
    rw [← HBG.out]
    cases hu : st1.bind (rdU 4 bg) with
    | none =>
      rw [hu] at hx2
      exact ⟨none, ⟨hx2.1, rfl⟩, hx2.2, by rw [hx2.1]; decide⟩
    | some p =>
      rw [hu] at hx2
      refine ⟨some p.2, ⟨hx2.1, rfl⟩, hx2.2, ?_⟩
      obtain ⟨r1, hr1, hr2⟩ := Option.bind_eq_some_iff.1 hu
      rw [hx2.1]
      exact rdU_lt (RS.byt (by rw [← hr1]; exact HRS1.out)).1 hr2
  have HHL := Lib.hid (head_law (any := any) (kind := kind) HS1.out hst2)
  rw [← HBG.out] at HHL
  obtain ⟨q1, q2, q3⟩ := head_nums hx24
  have q4 : wrap64 ((x2 : Int) / 1000) = ((x2 / 1000 : Nat) : Int) := by
    rw [wrap64]; omega
  obtain ⟨C, hC⟩ : ∃ C, C = x2 % 1000 := ⟨_, rfl⟩
  obtain ⟨D, hD⟩ : ∃ D, D = x2 / 1000 := ⟨_, rfl⟩
  rw [← hC] at HHL q2
  rw [← hD] at HHL q3 q4
  have hCb : C < 1000 := by rw [hC]; exact Nat.mod_lt _ (by decide)
  have hDb : D < 4294968 := by omega
  obtain ⟨w4, hw4⟩ : ∃ w4, w4 = w3.alloc (.cells #[.int .i64 C, .int .i64 D, .slice none 0 0, .slice none 0 0] 25) := ⟨_, rfl⟩
  have hgi : GI S w R w3.heap.size any st2 C D (.slice none 0 0) (.slice none 0 0) w4 := by
    have hb4 : Below w3.heap.size w3 w4 := by rw [hw4]; exact (Below.refl _ _).alloc (Nat.le_refl _) _
    have s1 := HZ1.out.lt
    have s2 := HG2.out.size
    have s3 := hg3.size
    have hg13 := grown_trans HG2.out hg3
    have hne : some w.heap.size ≠ some R := fun e => by have := Option.some.inj e; omega
    refine ⟨hrs2.below hb4, by rw [hw4]; exact Blk.new _ _ _, (HZ1.out.grown hg13 hne).below hb4 (by omega), ?_, hRw, by omega⟩
    refine ⟨hb4.os.trans (hg13.os.trans HB1.out.os), hb4.tape.trans (hg13.tape.trans HB1.out.tape), hb4.output.trans (hg13.output.trans HB1.out.output), by have := hb4.size; omega, fun j hj hne => ?_⟩
    rw [hb4.block j (by omega), hg13.block j (by omega) hne, HB1.out.block j hj]
  have HW4 := Lib.hid hw4
  have HG4 := Lib.hid hgi
  obtain ⟨G, hG⟩ : ∃ G, G = w3.heap.size := ⟨_, rfl⟩
  rw [← hG] at HG4
  have HGe := Lib.hid hG
  clear hg3 hx2 hst2 hrs2 hC hD hw4 hgi hG hx24
  go_upto_region 5 with fail
  rw [← HW4.out, ← HGe.out]
  try rw [← HBQ.out]
  obtain ⟨g0, g1, g2, g3, -, -, -, -, gl⟩ := cells4 HG4.out.gb
  clear q1 q2 q3 q4
  go_cut [42] (fun c wx => c = .bool (decide (1 < x1 ∨ C < 1 ∨ 7 < C ∨ 3 < D)) ∧ wx = w4)
  case first =>
    by_cases c1 : 1 < x1
    · have d1 : (1 : Int) < (x1 : Int) := by omega
      go_wp2_with fail
      go_meet
      exact ⟨by rw [decide_eq_true (.inl c1)], rfl⟩
    have d1 : ¬ (1 : Int) < (x1 : Int) := by omega
    by_cases c2 : C < 1
    · have d2 : (C : Int) < 1 := by omega
      go_wp2_with fail
      go_meet
      exact ⟨by rw [decide_eq_true (.inr (.inl c2))], rfl⟩
    have d2 : ¬ (C : Int) < 1 := by omega
    by_cases c3 : 7 < C
    · have d3 : (7 : Int) < (C : Int) := by omega
      go_wp2_with fail
      go_meet
      exact ⟨by rw [decide_eq_true (.inr (.inr (.inl c3)))], rfl⟩
    have d3 : ¬ (7 : Int) < (C : Int) := by omega
    by_cases c4 : 3 < D
    · have d4 : (3 : Int) < (D : Int) := by omega
      go_wp2_with fail
      go_meet
      exact ⟨by rw [decide_eq_true (.inr (.inr (.inr c4)))], rfl⟩
    have d4 : ¬ (3 : Int) < (D : Int) := by omega
    go_wp2_with fail
    go_meet
    refine ⟨?_, rfl⟩
    rw [decide_eq_false (by omega)]
  case rest =>
    obtain ⟨rfl, hwc⟩ := hcut
    rw [hwc]
    clear hwc
    obtain ⟨bad, hbad⟩ : ∃ bad, bad = decide (1 < x1 ∨ C < 1 ∨ 7 < C ∨ 3 < D) := ⟨_, rfl⟩
    rw [← hbad]
    have HBAD := Lib.hid hbad
    obtain ⟨st3, hst3⟩ : ∃ st3, st3 = if bad then none else st2 := ⟨_, rfl⟩
    have HST3 := Lib.hid hst3
    clear hbad hst3
    go_upto_if 42 with fail
    go_cut [42] (fun c wx => c = .bool bad ∧ GI S w R G any st3 C D (.slice none 0 0) (.slice none 0 0) wx)
    case first =>
      obtain ⟨k1, k2, k3, k4⟩ := HG4.out.rs.cells
      cases bad with
      | true =>
        obtain rfl : st3 = none := HST3.out
        go_wp2_with fail
        go_meet
        exact ⟨rfl, HG4.out.bad⟩
      | false =>
        obtain rfl : st3 = st2 := HST3.out
        go_wp2_with fail
        go_meet
        exact ⟨rfl, HG4.out⟩
    case rest =>
      obtain ⟨rfl, hG5⟩ := hcut
      have HG5 := Lib.hid hG5
      obtain ⟨g0, g1, g2, g3, f0, f1, f2, f3, gl⟩ := cells4 hG5.gb
      clear hG5
      obtain ⟨K, hK⟩ : ∃ K : Nat, K = kdOf C := ⟨_, rfl⟩
      have HK := Lib.hid hK
      clear hK
      go_upto_if 48 with fail
      go_cut [48] (fun c wx => c = .bool ((C : Int) == 7) ∧ GI S w R G any st3 K D (.slice none 0 0) (.slice none 0 0) wx)
      case first =>
        by_cases c7 : C = 7
        · have e7 : ((C : Int) == 7) = true := beq_iff_eq.2 (by omega)
          obtain rfl : K = 0 := by rw [HK.out, c7]; rfl
          go_wp2_with fail
          go_meet
          exact ⟨by rw [e7], HG5.out.setG 0 _ (by simp)⟩
        · have e7 : ((C : Int) == 7) = false := beq_eq_false_iff_ne.2 (by omega)
          obtain rfl : K = C := by rw [HK.out]; unfold kdOf; rw [if_neg c7]
          go_wp2_with fail
          go_meet
          exact ⟨by rw [e7], HG5.out⟩
      case rest =>
        obtain ⟨rfl, hG6⟩ := hcut
        have HG6 := Lib.hid hG6
        clear g0 g1 g2 g3 f0 f1 f2 f3 gl
        obtain ⟨g0, g1, g2, g3, f0, f1, f2, f3, gl⟩ := cells4 hG6.gb
        obtain ⟨k1, k2, k3, k4⟩ := hG6.rs.cells
        clear hG6
        obtain ⟨b9, hb9⟩ : ∃ b9, b9 = decide (0 ≤ kind ∧ (K : Int) ≠ kind ∧ any = false) := ⟨_, rfl⟩
        have HB9 := Lib.hid hb9
        clear hb9
        go_upto_region 9 with fail
        go_cut [64] (fun c wx => c = .bool b9 ∧ GI S w R G any st3 K D (.slice none 0 0) (.slice none 0 0) wx)
        case first =>
          by_cases c1 : 0 ≤ kind
          · have d1 : decide (kind ≥ 0) = true := decide_eq_true c1
            by_cases c2 : (K : Int) = kind
            · have d2 : ((K : Int) != kind) = false := by rw [c2]; simp
              obtain rfl : b9 = false := by rw [HB9.out]; exact decide_eq_false (fun h => h.2.1 c2)
              go_wp2_with fail
              go_meet
              exact ⟨rfl, HG6.out⟩
            · have d2 : ((K : Int) != kind) = true := by simp [c2]
              cases any with
              | true =>
                obtain rfl : b9 = false := by rw [HB9.out]; exact decide_eq_false (fun h => by cases h.2.2)
                go_wp2_with fail
                go_meet
                exact ⟨rfl, HG6.out⟩
              | false =>
                obtain rfl : b9 = true := by rw [HB9.out]; exact decide_eq_true ⟨c1, c2, rfl⟩
                go_wp2_with fail
                go_meet
                exact ⟨rfl, HG6.out⟩
          · have d1 : kind < 0 := by omega
            obtain rfl : b9 = false := by rw [HB9.out]; exact decide_eq_false (fun h => c1 h.1)
            go_wp2_with fail
            go_meet
            exact ⟨rfl, HG6.out⟩
        case rest =>
          obtain ⟨rfl, hG7⟩ := hcut
          have HG7 := Lib.hid hG7
          clear g0 g1 g2 g3 f0 f1 f2 f3 gl k1 k2 k3 k4 hG7
          obtain ⟨st4, hst4⟩ : ∃ st4, st4 = if b9 then none else st3 := ⟨_, rfl⟩
          have HST4 := Lib.hid hst4
          clear hst4
          go_upto_if 64 with fail
          go_cut [64] (fun c wx => c = .bool b9 ∧ GI S w R G any st4 K D (.slice none 0 0) (.slice none 0 0) wx)
          case first =>
            obtain ⟨k1, k2, k3, k4⟩ := HG7.out.rs.cells
            cases b9 with
            | true =>
              obtain rfl : st4 = none := HST4.out
              go_wp2_with fail
              go_meet
              exact ⟨rfl, HG7.out.bad⟩
            | false =>
              obtain rfl : st4 = st3 := HST4.out
              go_wp2_with fail
              go_meet
              exact ⟨rfl, HG7.out⟩
          case rest =>
            obtain ⟨rfl, hG8⟩ := hcut
            have HG8 := Lib.hid hG8
            have hhead : HeadR any kind l bg K D st4 := by
              by_cases hbad : 1 < x1 ∨ C < 1 ∨ 7 < C ∨ 3 < D
              · have h1 : bad = true := by rw [HBAD.out]; exact decide_eq_true hbad
                have h3 : st3 = none := by rw [HST3.out, h1]; rfl
                have h4 : st4 = none := by rw [HST4.out, h3]; cases b9 <;> rfl
                rw [h4]
                exact HHL.out.1 hbad
              · have h1 : bad = false := by rw [HBAD.out]; exact decide_eq_false hbad
                obtain ⟨r2, h2, hh⟩ := HHL.out.2 hbad
                rw [← HK.out] at hh
                have h3 : st3 = some r2 := by rw [HST3.out, h1, ← h2]; rfl
                by_cases hk : 0 ≤ kind ∧ (K : Int) ≠ kind ∧ any = false
                · have h9 : b9 = true := by rw [HB9.out]; exact decide_eq_true hk
                  have h4 : st4 = none := by rw [HST4.out, h9]; rfl
                  rw [h4]
                  show rdH any kind l = none
                  rw [hh, if_pos hk]
                · have h9 : b9 = false := by rw [HB9.out]; exact decide_eq_false hk
                  have h4 : st4 = some r2 := by rw [HST4.out, h9, ← h3]; rfl
                  rw [h4]
                  show rdH any kind l = some ((bg, K, D), r2)
                  rw [hh, if_neg hk]
            have HHEAD := Lib.hid hhead
            clear hhead hG8
            obtain ⟨g0, g1, g2, g3, f0, f1, f2, f3, gl⟩ := cells4 HG8.out.gb
            obtain ⟨z0, z1, z2, z3, y0, y1, y2, y3, zl⟩ := cells4 HG8.out.zb
            obtain ⟨k1, k2, k3, k4⟩ := HG8.out.rs.cells
            cases st4 with
            | none =>
              have ho : o = none := by rw [HO.out, show rdH any kind l = none from HHEAD.out]
              go_wp2_with fail
              refine bodyPost_ret (v := .agg #[.int .i64 0, .int .i64 0, .slice none 0 0, .slice none 0 0]) (by simp [results, Tryz.results48, go_sem, z0, z1, z2, z3, zl]) rfl (HG8.out.done _ _ _ _ (.mk 0 0 none 0 [] none 0 []) (zero_in _ _) zero_fit (.inl ⟨by first | rfl | exact ho, rfl⟩))
            | some r2 =>
              have hhd : rdH any kind l = some ((bg, K, D), r2) := HHEAD.out
              have hsel := HSEL.out _ _ _ _ hhd
              have ho : o = rdB (rdG any fuel) any bg K D r2 := by rw [HO.out, hhd]
              have hlen := rdH_len hhd
              have HO2 := Lib.hid ho
              have hD4 : D < 4 := hlen.2.2.2
              have hK7 : K < 7 := hlen.2.2.1
              have hr2l : r2.length + 5 = l.length := hlen.2.1
              have HW := Lib.hid (@width_calls D hD4)
              have hwd := wd_two D
              clear hhd ho hlen
              by_cases hK1 : K = 1
              · exfalso; omega
              · by_cases hK2 : K = 2
                · subst hK2
                  obtain ⟨oc, hoc⟩ : ∃ oc, oc = rdC bg r2 := ⟨_, rfl⟩
                  obtain ⟨X, hX⟩ : ∃ X, X = (oc.map (·.1)).getD 0 := ⟨_, rfl⟩
                  obtain ⟨st5, hst5⟩ : ∃ st5, st5 = oc.map (·.2) := ⟨_, rfl⟩
                  have hX4 : X ≤ 4096 := by
                    rw [hX]
                    cases hcc : rdC bg r2 with
                    | none => rw [hoc, hcc]; decide
                    | some p => rw [hoc, hcc]; exact (rdC_len hcc).2.2
                  have HC := Lib.hid (show ∀ w', Below wc.heap.size wc w' → Calls Tryz.prog 103 #[.pointer (some ⟨R, 0, none⟩), .bool bg] w' (fun e w'' => e = .returned (.int .i64 X) ∧ wc.grownBy w'' (some R) ∧ RS S w'' R any st5) from fun w' hb => by
                    refine (count_calls (HG8.out.rs.below hb) bg).mono ?_
                    rintro e w'' ⟨x, rfl, h4, hg, hm⟩
                    rw [show (some r2).bind (rdC bg) = oc from hoc.symm] at hm
                    have hgg : wc.grownBy w'' (some R) := ⟨hg.os.trans hb.os, hg.tape.trans hb.tape, hg.output.trans hb.output, Nat.le_trans hb.size hg.size, fun j hj hne => (hg.block j (Nat.lt_of_lt_of_le hj hb.size) hne).trans (hb.block j hj)⟩
                    cases oc with
                    | none => exact ⟨by rw [hm.1, hX]; rfl, hgg, by rw [hst5]; exact hm.2⟩
                    | some p => exact ⟨by rw [hm.1, hX]; rfl, hgg, by rw [hst5]; exact hm.2⟩)
                  obtain ⟨W, hW⟩ : ∃ W, W = wd D := ⟨_, rfl⟩
                  rw [← hW] at HW hwd
                  obtain ⟨N, hN⟩ : ∃ N, N = X * W := ⟨_, rfl⟩
                  have hN4 : N ≤ 16384 := by
                    rw [hN]
                    calc X * W ≤ 4096 * 4 := Nat.mul_le_mul hX4 hwd.2
                      _ = 16384 := rfl
                  have hmulE : (X : Int) * (W : Int) = (N : Int) := by rw [hN]; exact (Int.natCast_mul X W).symm
                  have hmul : IntKind.i64.wrap ((X : Int) * (W : Int)) = (N : Int) := by rw [hmulE, IntKind.wrap_i64]; omega
                  have hmul2 : wrap64 ((X : Int) * (W : Int)) = (N : Int) := by rw [hmulE, wrap64]; omega
                  have HN := Lib.hid (fun w' (hr : RS S w' R any st5) => nums_calls2 hr N hN4 bg)
                  have HST5 := Lib.hid hst5
                  have HOC := Lib.hid hoc
                  have HXE := Lib.hid hX
                  have HNE := Lib.hid hN
                  have HWE := Lib.hid hW
                  have HN4 := Lib.hid hN4
                  clear hoc hX hst5 hW hN hN4 hmulE
                  go_upto_region 31 with fail
                  have g1d : wc.drew.cell? ⟨G, 1, none⟩ = some (.int .i64 D) := g1
                  clear g0 g2 g3 f0 f1 f3 z0 z1 z2 z3 y0 y1 y2 y3 k1 k2 k3
                  go_region_held3 (fun w' => w'.cell? ⟨G, 1, none⟩ = some (.int .i64 D)) (first
                    | with_reducible exact a1
                    | with_reducible exact d1
                    | exact cell_beside d1 (by decide) _
                    | exact g1d) (first
                    | (go_at_call 103; refine (HC.out _ (Below.refl _ _).drew).mono ?_
                       rintro e5 w5 ⟨rfl, hg5, hr5⟩
                       obtain ⟨a0, a1, a2, a3, b0, b1, b2, b3, al⟩ := cells4 (HG8.out.read hg5 hr5).gb)
                    | (go_at_call 28; refine (HW.out _).mono ?_; rintro e9 w9 ⟨rfl, h9⟩; obtain rfl := h9.symm)
                    | (go_at_call 102; refine (HN.out _ hr5).mono ?_
                       rintro e6 w6 ⟨A6, c6, fs, rfl, hs6, hn6, hcc6, hg6, hm6⟩
                       obtain ⟨d0, d1, d2, d3, e0, e1, e2, e3, dl⟩ := cells4 ((HG8.out.read hg5 hr5).read hg6 (show RS S w6 R any ((st5.bind (rdN bg N)).map (·.2)) from by
                         revert hm6
                         cases st5.bind (rdN bg N) with
                         | none => exact fun h => h
                         | some p => exact fun h => h.2)).gb))
                  all_goals
                    obtain ⟨oN, hoN⟩ : ∃ oN, oN = st5.bind (rdN bg N) := ⟨_, rfl⟩
                    rw [← hoN] at hm6
                    have hoe := ln_law HO2.out HOC.out HXE.out HST5.out HWE.out HNE.out hoN
                    have hr6 : RS S w6 R any (oN.map (·.2)) := by
                      cases oN with
                      | none => exact hm6
                      | some p => exact hm6.2
                    have hG6 := ((HG8.out.read hg5 hr5).read hg6 hr6).setG 2 (.slice A6 fs.length c6) (K' := (2 : Nat)) (D' := D) (v2' := .slice A6 fs.length c6) (v3' := .slice none 0 0) (by simp)
                    have hGw : G < wc.heap.size := gl
                    have hw5 : wc.heap.size ≤ w5.heap.size := hg5.size
                    have hs7 : SlS (fun a => w5.heap.size ≤ a) (w6.setCell ⟨G, 2, none⟩ (.slice A6 fs.length c6)) A6 fs.length 1 (FL fs) := SlS.keep (SlS.less hs6 (fun a ha => by exact ha)) (Keeps.set (p := ⟨G, 2, none⟩) (by show ¬ w5.heap.size ≤ G; clear hmul hmul2; omega) _)
                    obtain ⟨w7, hw7⟩ : ∃ w7, w7 = w6.setCell ⟨G, 2, none⟩ (.slice A6 fs.length c6) := ⟨_, rfl⟩
                    rw [← hw7] at hG6 hs7 ⊢
                    have hin := pt_in (T := fun a => w.heap.size < a) (w := w7) (D := D) hD4 (c := c6) (k := 2) (SlS.less hs7 (fun a ha => by have h1 : w5.heap.size ≤ a := ha; have := HG8.out.hi; show w.heap.size < a; clear hmul hmul2; omega)) (Nat.le_trans hn6 HN4.out) hcc6 (by decide)
                    have HIN := Lib.hid hin
                    have HG7 := Lib.hid hG6
                    have HOE := Lib.hid hoe
                    have HM6 := Lib.hid hm6
                    clear hin hG6 hoe hm6 hs7 hr6 hoN hw7 a0 a1 a2 a3 b0 b1 b2 b3 al d0 d1 d2 d3 e0 e1 e2 e3 dl hg5 hg6 hr5 hs6 hn6 hcc6 g1 g1d f2 gl zl k4 hmul hmul2
                    obtain ⟨j0, j1, j2, j3, -, -, -, -, jl⟩ := cells4 HG7.out.gb
                    obtain ⟨z0, z1, z2, z3, y0, y1, y2, y3, zl⟩ := cells4 HG7.out.zb
                    go_wp2_with fail
                    refine bodyPost_ret (v := .agg #[.int .i64 2, .int .i64 D, .slice A6 fs.length c6, .slice none 0 0]) (by simp [results, Tryz.results48, go_sem, z0, z1, z2, z3, zl]) rfl (HG7.out.done _ _ _ _ (.mk (2 : Nat) D A6 c6 fs none 0 []) HIN.out.1 HIN.out.2 ?_)
                    have hoe := HOE.out
                    have hm6 := HM6.out
                    rcases hoe with ⟨e1, e2⟩ | ⟨ns, r, e1, e2⟩
                    · exact .inl ⟨e1, by rw [e2]; rfl⟩
                    · rw [e1] at hm6
                      exact .inr ⟨r, by rw [e2, hm6.1]; rfl, by rw [e1]; rfl⟩
                · exfalso; omega
end Go.Proofs.YtbacakdpfiiblaaGreat.geo
