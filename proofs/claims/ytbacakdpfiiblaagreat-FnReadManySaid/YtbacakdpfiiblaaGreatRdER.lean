/-
  Contract of the reader of the reference: a geometry: a polygon, or none
-/
import Derived.Test.YtbacakdpfiiblaaGreatRdE
namespace Go.Proofs.YtbacakdpfiiblaaGreat.geo
open Go.ChangeShapes Go.WideShapes Go.ChangeAt Go.RowKit
open Go.Proofs.YtbacakdpfiiblaaGreat.mem
set_option linter.unusedVariables false
set_option linter.unusedSimpArgs false

set_option maxHeartbeats 16000000 in
set_option maxRecDepth 100000 in
theorem geom_ri (S : Nat → Prop) (any : Bool) (fuel : Nat) (ih : ∀ (w : World) (R : Nat) (l : List Nat) (kind : Int), RS S w R any (some l) → l.length < fuel → Calls Tryz.prog 48 #[.pointer (some ⟨R, 0, none⟩), .int .i64 kind] w (GPost S w R any (rdG any fuel kind l)))
    (w : World) (R : Nat) (l : List Nat) (kind : Int) (h : RS S w R any (some l)) (hf : l.length < fuel + 1) (b0 : Bool) (D0 : Nat) (r0 : List Nat) (hsel : rdH any kind l = some ((b0, 3, D0), r0)) :
    Calls Tryz.prog 48 #[.pointer (some ⟨R, 0, none⟩), .int .i64 kind] w (GPost S w R any (rdG any (fuel + 1) kind l)) := by
  have HIH := Lib.hid ih
  have HSEL := Lib.hid hsel
  clear hsel
  obtain ⟨o, ho⟩ : ∃ o, o = rdG any (fuel + 1) kind l := ⟨_, rfl⟩
  rw [← ho]
  have HO := Lib.hid (ho.trans (rdG_eq any fuel kind l))
  clear ho
  obtain ⟨w1, hw1⟩ : ∃ w1, w1 = w.alloc (.cells #[.int .i64 0, .int .i64 0, .slice none 0 0, .slice none 0 0] 25) := ⟨_, rfl⟩
  have hb1 : Below w.heap.size w w1 := by rw [hw1]; exact (Below.refl _ _).alloc (Nat.le_refl _) _
  have h1 := h.below hb1
  have HU1 := Lib.hid (uint_calls h1 1 (by omega) false)
  have HW1 := Lib.hid hw1
  have HR1 := Lib.hid h1
  have HZ1 := Lib.hid (show Blk w1 w.heap.size 25 #[.int .i64 0, .int .i64 0, .slice none 0 0, .slice none 0 0] by rw [hw1]; exact Blk.new _ _ _)
  have HB1 := Lib.hid hb1
  have hRw := h.lt
  have HBY := Lib.hid h.byt
  have HF := Lib.hid hf
  clear ih hw1 hb1 h1 h hf
  go_enter Tryz.func48, Tryz.ntmps48
  go_wp2_with fail
  rw [← HW1.out]
  refine HU1.out.mono ?_
  rintro e w2 ⟨x1, rfl, hg2, hx1⟩
  have HG2 := Lib.hid hg2
  obtain ⟨st1, hst1, hrs1⟩ : ∃ st1 : Option (List Nat), (match rdU 1 false l with | none => x1 = 0 ∧ st1 = none | some (y, r) => x1 = y ∧ st1 = some r) ∧ RS S w2 R any st1 := by
    cases hu : rdU 1 false l with
    | none =>
      rw [show (some l).bind (rdU 1 false) = none from hu] at hx1
      exact ⟨none, ⟨hx1.1, rfl⟩, hx1.2⟩
    | some p =>
      rw [show (some l).bind (rdU 1 false) = some p from hu] at hx1
      exact ⟨some p.2, ⟨hx1.1, rfl⟩, hx1.2⟩
  have HS1 := Lib.hid hst1
  have HU2 := Lib.hid (fun b => uint_calls hrs1 4 (by omega) b)
  have HRS1 := Lib.hid hrs1
  clear hg2 hx1 hst1 hrs1 HU1
  obtain ⟨bg, hbg⟩ : ∃ bg, bg = ((x1 : Int) == 0) := ⟨_, rfl⟩
  have hbg2 : bg = (x1 == 0) := by
    rw [hbg, Bool.eq_iff_iff, beq_iff_eq, beq_iff_eq]; omega
  have HBG := Lib.hid hbg2
  have HBQ := Lib.hid hbg
  go_wp2_with fail
  rw [← hbg]
  clear hbg2 hbg
  refine (HU2.out _).mono ?_
  rintro e w3 ⟨x2, rfl, hg3, hx2⟩
  obtain ⟨st2, hst2, hrs2, hx24⟩ : ∃ st2 : Option (List Nat), (match st1.bind (rdU 4 (x1 == 0)) with | none => x2 = 0 ∧ st2 = none | some (y, r) => x2 = y ∧ st2 = some r) ∧ RS S w3 R any st2 ∧ x2 < 4294967296 := by
    rw [← HBG.out]
    cases hu : st1.bind (rdU 4 bg) with
    | none =>
      rw [hu] at hx2
      exact ⟨none, ⟨hx2.1, rfl⟩, hx2.2, by rw [hx2.1]; decide⟩
    | some p =>
      rw [hu] at hx2
      refine ⟨some p.2, ⟨hx2.1, rfl⟩, hx2.2, ?_⟩
      obtain ⟨r1, hr1, hr2⟩ := Option.bind_eq_some_iff.1 hu
      rw [hx2.1]
      exact rdU_lt (RS.byt (by rw [← hr1]; exact HRS1.out)).1 hr2
  have HHL := Lib.hid (head_law (any := any) (kind := kind) HS1.out hst2)
  rw [← HBG.out] at HHL
  obtain ⟨q1, q2, q3⟩ := head_nums hx24
  have q4 : wrap64 ((x2 : Int) / 1000) = ((x2 / 1000 : Nat) : Int) := by
    rw [wrap64]; omega
  obtain ⟨C, hC⟩ : ∃ C, C = x2 % 1000 := ⟨_, rfl⟩
  obtain ⟨D, hD⟩ : ∃ D, D = x2 / 1000 := ⟨_, rfl⟩
  rw [← hC] at HHL q2
  rw [← hD] at HHL q3 q4
  have hCb : C < 1000 := by rw [hC]; exact Nat.mod_lt _ (by decide)
  have hDb : D < 4294968 := by omega
  obtain ⟨w4, hw4⟩ : ∃ w4, w4 = w3.alloc (.cells #[.int .i64 C, .int .i64 D, .slice none 0 0, .slice none 0 0] 25) := ⟨_, rfl⟩
  have hgi : GI S w R w3.heap.size any st2 C D (.slice none 0 0) (.slice none 0 0) w4 := by
    have hb4 : Below w3.heap.size w3 w4 := by rw [hw4]; exact (Below.refl _ _).alloc (Nat.le_refl _) _
    have s1 := HZ1.out.lt
    have s2 := HG2.out.size
    have s3 := hg3.size
    have hg13 := grown_trans HG2.out hg3
    have hne : some w.heap.size ≠ some R := fun e => by have := Option.some.inj e; omega
    refine ⟨hrs2.below hb4, by rw [hw4]; exact Blk.new _ _ _, (HZ1.out.grown hg13 hne).below hb4 (by omega), ?_, hRw, by omega⟩
    refine ⟨hb4.os.trans (hg13.os.trans HB1.out.os), hb4.tape.trans (hg13.tape.trans HB1.out.tape), hb4.output.trans (hg13.output.trans HB1.out.output), by have := hb4.size; omega, fun j hj hne => ?_⟩
    rw [hb4.block j (by omega), hg13.block j (by omega) hne, HB1.out.block j hj]
  have HW4 := Lib.hid hw4
  have HG4 := Lib.hid hgi
  obtain ⟨G, hG⟩ : ∃ G, G = w3.heap.size := ⟨_, rfl⟩
  rw [← hG] at HG4
  have HGe := Lib.hid hG
  clear hg3 hx2 hst2 hrs2 hC hD hw4 hgi hG hx24
  have hNB : ¬ (1 < x1 ∨ C < 1 ∨ 7 < C ∨ 3 < D) := fun hb => by
    have h1 := HHL.out.1 hb
    rw [HSEL.out] at h1
    cases h1
  have hKC : kdOf C = 3 ∧ ¬ (0 ≤ kind ∧ ((kdOf C : Nat) : Int) ≠ kind ∧ any = false) := by
    obtain ⟨rq, h2, hh⟩ := HHL.out.2 hNB
    rw [HSEL.out] at hh
    split at hh
    · cases hh
    · rename_i hx
      refine ⟨?_, hx⟩
      have h1 := congrArg (fun o => o.map (fun p => p.1.2.1)) hh
      simpa using h1.symm
  have HNB := Lib.hid hNB
  have HKC := Lib.hid hKC
  clear hNB hKC
  go_upto_region 5 with fail
  rw [← HW4.out, ← HGe.out]
  try rw [← HBQ.out]
  obtain ⟨g0, g1, g2, g3, -, -, -, -, gl⟩ := cells4 HG4.out.gb
  clear q1 q2 q3 q4
  go_cut [42] (fun c wx => c = .bool (decide (1 < x1 ∨ C < 1 ∨ 7 < C ∨ 3 < D)) ∧ wx = w4)
  case first =>
    by_cases c1 : 1 < x1
    · exact absurd (show 1 < x1 ∨ C < 1 ∨ 7 < C ∨ 3 < D by omega) HNB.out
    have d1 : ¬ (1 : Int) < (x1 : Int) := by omega
    by_cases c2 : C < 1
    · exact absurd (show 1 < x1 ∨ C < 1 ∨ 7 < C ∨ 3 < D by omega) HNB.out
    have d2 : ¬ (C : Int) < 1 := by omega
    by_cases c3 : 7 < C
    · exact absurd (show 1 < x1 ∨ C < 1 ∨ 7 < C ∨ 3 < D by omega) HNB.out
    have d3 : ¬ (7 : Int) < (C : Int) := by omega
    by_cases c4 : 3 < D
    · exact absurd (show 1 < x1 ∨ C < 1 ∨ 7 < C ∨ 3 < D by omega) HNB.out
    have d4 : ¬ (3 : Int) < (D : Int) := by omega
    go_wp2_with fail
    go_meet
    refine ⟨?_, rfl⟩
    rw [decide_eq_false (by omega)]
  case rest =>
    obtain ⟨rfl, hwc⟩ := hcut
    rw [hwc]
    clear hwc
    obtain ⟨bad, hbad⟩ : ∃ bad, bad = decide (1 < x1 ∨ C < 1 ∨ 7 < C ∨ 3 < D) := ⟨_, rfl⟩
    rw [← hbad]
    have HBAD := Lib.hid hbad
    obtain ⟨st3, hst3⟩ : ∃ st3, st3 = if bad then none else st2 := ⟨_, rfl⟩
    have HST3 := Lib.hid hst3
    clear hbad hst3
    go_upto_if 42 with fail
    go_cut [42] (fun c wx => c = .bool bad ∧ GI S w R G any st3 C D (.slice none 0 0) (.slice none 0 0) wx)
    case first =>
      obtain ⟨k1, k2, k3, k4⟩ := HG4.out.rs.cells
      cases bad with
      | true => exact absurd (of_decide_eq_true HBAD.out.symm) HNB.out
      | false =>
        obtain rfl : st3 = st2 := HST3.out
        go_wp2_with fail
        go_meet
        exact ⟨rfl, HG4.out⟩
    case rest =>
      obtain ⟨rfl, hG5⟩ := hcut
      have HG5 := Lib.hid hG5
      obtain ⟨g0, g1, g2, g3, f0, f1, f2, f3, gl⟩ := cells4 hG5.gb
      clear hG5
      obtain ⟨K, hK⟩ : ∃ K : Nat, K = kdOf C := ⟨_, rfl⟩
      have HK := Lib.hid hK
      clear hK
      go_upto_if 48 with fail
      go_cut [48] (fun c wx => c = .bool ((C : Int) == 7) ∧ GI S w R G any st3 K D (.slice none 0 0) (.slice none 0 0) wx)
      case first =>
        by_cases c7 : C = 7
        · exact absurd (show kdOf C = 3 from HKC.out.1) (by rw [c7]; decide)
        · have e7 : ((C : Int) == 7) = false := beq_eq_false_iff_ne.2 (by omega)
          obtain rfl : K = C := by rw [HK.out]; unfold kdOf; rw [if_neg c7]
          go_wp2_with fail
          go_meet
          exact ⟨by rw [e7], HG5.out⟩
      case rest =>
        obtain ⟨rfl, hG6⟩ := hcut
        have HG6 := Lib.hid hG6
        clear g0 g1 g2 g3 f0 f1 f2 f3 gl
        obtain ⟨g0, g1, g2, g3, f0, f1, f2, f3, gl⟩ := cells4 hG6.gb
        obtain ⟨k1, k2, k3, k4⟩ := hG6.rs.cells
        clear hG6
        obtain ⟨b9, hb9⟩ : ∃ b9, b9 = decide (0 ≤ kind ∧ (K : Int) ≠ kind ∧ any = false) := ⟨_, rfl⟩
        have HB9 := Lib.hid hb9
        clear hb9
        go_upto_region 9 with fail
        go_cut [64] (fun c wx => c = .bool b9 ∧ GI S w R G any st3 K D (.slice none 0 0) (.slice none 0 0) wx)
        case first =>
          by_cases c1 : 0 ≤ kind
          · have d1 : decide (kind ≥ 0) = true := decide_eq_true c1
            by_cases c2 : (K : Int) = kind
            · have d2 : ((K : Int) != kind) = false := by rw [c2]; simp
              obtain rfl : b9 = false := by rw [HB9.out]; exact decide_eq_false (fun h => h.2.1 c2)
              go_wp2_with fail
              go_meet
              exact ⟨rfl, HG6.out⟩
            · have d2 : ((K : Int) != kind) = true := by simp [c2]
              cases any with
              | true =>
                obtain rfl : b9 = false := by rw [HB9.out]; exact decide_eq_false (fun h => by cases h.2.2)
                go_wp2_with fail
                go_meet
                exact ⟨rfl, HG6.out⟩
              | false => exact absurd (show 0 ≤ kind ∧ ((kdOf C : Nat) : Int) ≠ kind ∧ false = false from ⟨c1, by rw [← HK.out]; exact c2, rfl⟩) HKC.out.2
          · have d1 : kind < 0 := by omega
            obtain rfl : b9 = false := by rw [HB9.out]; exact decide_eq_false (fun h => c1 h.1)
            go_wp2_with fail
            go_meet
            exact ⟨rfl, HG6.out⟩
        case rest =>
          obtain ⟨rfl, hG7⟩ := hcut
          have HG7 := Lib.hid hG7
          clear g0 g1 g2 g3 f0 f1 f2 f3 gl k1 k2 k3 k4 hG7
          obtain ⟨st4, hst4⟩ : ∃ st4, st4 = if b9 then none else st3 := ⟨_, rfl⟩
          have HST4 := Lib.hid hst4
          clear hst4
          go_upto_if 64 with fail
          go_cut [64] (fun c wx => c = .bool b9 ∧ GI S w R G any st4 K D (.slice none 0 0) (.slice none 0 0) wx)
          case first =>
            obtain ⟨k1, k2, k3, k4⟩ := HG7.out.rs.cells
            cases b9 with
            | true => exact absurd (show 0 ≤ kind ∧ ((kdOf C : Nat) : Int) ≠ kind ∧ any = false by rw [← HK.out]; exact of_decide_eq_true HB9.out.symm) HKC.out.2
            | false =>
              obtain rfl : st4 = st3 := HST4.out
              go_wp2_with fail
              go_meet
              exact ⟨rfl, HG7.out⟩
          case rest =>
            obtain ⟨rfl, hG8⟩ := hcut
            have HG8 := Lib.hid hG8
            have hhead : HeadR any kind l bg K D st4 := by
              by_cases hbad : 1 < x1 ∨ C < 1 ∨ 7 < C ∨ 3 < D
              · have h1 : bad = true := by rw [HBAD.out]; exact decide_eq_true hbad
                have h3 : st3 = none := by rw [HST3.out, h1]; rfl
                have h4 : st4 = none := by rw [HST4.out, h3]; cases b9 <;> rfl
                rw [h4]
                exact HHL.out.1 hbad
              · have h1 : bad = false := by rw [HBAD.out]; exact decide_eq_false hbad
                obtain ⟨r2, h2, hh⟩ := HHL.out.2 hbad
                rw [← HK.out] at hh
                have h3 : st3 = some r2 := by rw [HST3.out, h1, ← h2]; rfl
                by_cases hk : 0 ≤ kind ∧ (K : Int) ≠ kind ∧ any = false
                · have h9 : b9 = true := by rw [HB9.out]; exact decide_eq_true hk
                  have h4 : st4 = none := by rw [HST4.out, h9]; rfl
                  rw [h4]
                  show rdH any kind l = none
                  rw [hh, if_pos hk]
                · have h9 : b9 = false := by rw [HB9.out]; exact decide_eq_false hk
                  have h4 : st4 = some r2 := by rw [HST4.out, h9, ← h3]; rfl
                  rw [h4]
                  show rdH any kind l = some ((bg, K, D), r2)
                  rw [hh, if_neg hk]
            have HHEAD := Lib.hid hhead
            clear hhead hG8
            obtain ⟨g0, g1, g2, g3, f0, f1, f2, f3, gl⟩ := cells4 HG8.out.gb
            obtain ⟨z0, z1, z2, z3, y0, y1, y2, y3, zl⟩ := cells4 HG8.out.zb
            obtain ⟨k1, k2, k3, k4⟩ := HG8.out.rs.cells
            cases st4 with
            | none => exact absurd ((show rdH any kind l = none from HHEAD.out).symm.trans HSEL.out) (by simp)
            | some r2 =>
              have hhd : rdH any kind l = some ((bg, K, D), r2) := HHEAD.out
              have hsel : K = 3 := by
                have h1 := congrArg (fun o => o.map (fun p => p.1.2.1)) (HSEL.out.symm.trans hhd)
                simpa using h1.symm
              have ho : o = rdB (rdG any fuel) any bg K D r2 := by rw [HO.out, hhd]
              have hlen := rdH_len hhd
              have HO2 := Lib.hid ho
              have hD4 : D < 4 := hlen.2.2.2
              have hK7 : K < 7 := hlen.2.2.1
              have hr2l : r2.length + 5 = l.length := hlen.2.1
              have HW := Lib.hid (@width_calls D hD4)
              have hwd := wd_two D
              clear hhd ho hlen
              by_cases hK1 : K = 1
              · exfalso; omega
              · by_cases hK2 : K = 2
                · exfalso; omega
                · obtain ⟨oc, hoc⟩ : ∃ oc, oc = rdC bg r2 := ⟨_, rfl⟩
                  obtain ⟨X, hX⟩ : ∃ X, X = (oc.map (·.1)).getD 0 := ⟨_, rfl⟩
                  obtain ⟨st5, hst5⟩ : ∃ st5, st5 = oc.map (·.2) := ⟨_, rfl⟩
                  have hX4 : X ≤ 4096 := by
                    rw [hX]
                    cases hcc : rdC bg r2 with
                    | none => rw [hoc, hcc]; decide
                    | some p => rw [hoc, hcc]; exact (rdC_len hcc).2.2
                  have HC := Lib.hid (show Calls Tryz.prog 103 #[.pointer (some ⟨R, 0, none⟩), .bool bg] wc (fun e w'' => e = .returned (.int .i64 X) ∧ wc.grownBy w'' (some R) ∧ RS S w'' R any st5) from by
                    refine (count_calls HG8.out.rs bg).mono ?_
                    rintro e w'' ⟨x, rfl, h4, hg, hm⟩
                    rw [show (some r2).bind (rdC bg) = oc from hoc.symm] at hm
                    cases oc with
                    | none => exact ⟨by rw [hm.1, hX]; rfl, hg, by rw [hst5]; exact hm.2⟩
                    | some p => exact ⟨by rw [hm.1, hX]; rfl, hg, by rw [hst5]; exact hm.2⟩)
                  obtain ⟨f, hf⟩ : ∃ f, f = itemF (rdG any fuel) bg K D := ⟨_, rfl⟩
                  have hol := mu_law HO2.out hK1 hK2 hoc hX hst5 hf
                  have hr5 : ∀ r, st5 = some r → r.length + 4 ≤ r2.length := fun r e => by
                    rw [hst5, hoc] at e
                    cases hcc : rdC bg r2 with
                    | none => rw [hcc] at e; cases e
                    | some p =>
                      rw [hcc] at e
                      have h1 := (rdC_len (x := p.1) (r := p.2) hcc).2.1
                      have h2 : p.2 = r := Option.some.inj e
                      rw [h2] at h1
                      omega
                  have HOL := Lib.hid hol
                  have HR5 := Lib.hid hr5
                  have HFE := Lib.hid hf
                  obtain ⟨i0, hi, hz0, hz1, hz2⟩ := info_parts infoGm
                  have nK1 : (((K : Nat) : Int) == 1) = false := beq_eq_false_iff_ne.2 (by omega)
                  have nK2 : (((K : Nat) : Int) == 2) = false := beq_eq_false_iff_ne.2 (by omega)
                  clear hol hr5 hoc hX hst5 hf
                  go_wp2_with fail
                  refine HC.out.mono ?_
                  rintro e w5 ⟨rfl, hg5, hr5⟩
                  have HG5a := Lib.hid (HG8.out.read hg5 hr5)
                  have hwcs := hg5.size
                  clear hg5 hr5 g0 g1 g2 g3 f0 f1 f2 f3 gl z0 z1 z2 z3 y0 y1 y2 y3 zl k1 k2 k3 k4
                  by_cases hK3 : K = 3
                  · have eK3 : (((K : Nat) : Int) == 3) = true := beq_iff_eq.2 (by omega)
                    go_wp2_with fail
                    go_loopg [12] X (fun q ci wr => PartsI S w R G any K D f X st5 w5 fuel q ci wr)
                    case atStart =>
                      refine ⟨0, [], none, 0, st5, by omega, by go_num, rfl, World.ownsRow_nil _ _ _ _, (fun g hg => by cases hg), (fun g hg => by cases hg), HG5a.out, KSt.start, Nat.le_refl _, fun r e => ?_⟩
                      have h1 := HR5.out r e
                      have h2 := HF.out
                      omega
                    case round =>
                      obtain ⟨i, L, A1, c1, st', hi', rfl, hll, hown, hlin, hlfit, hgi, hks, hsr, hsh⟩ := hrel
                      have HLL := Lib.hid hll
                      have HOWN := Lib.hid hown
                      have HLIN := Lib.hid hlin
                      have HLF := Lib.hid hlfit
                      have HGI := Lib.hid hgi
                      have HKS := Lib.hid hks
                      have HSH := Lib.hid hsh
                      obtain ⟨g0, g1, g2, g3, f0, f1, f2, f3, gl⟩ := cells4 hgi.gb
                      obtain ⟨z0, z1, z2, z3, y0, y1, y2, y3, zl⟩ := cells4 hgi.zb
                      obtain ⟨k1, k2, k3, k4⟩ := hgi.rs.cells
                      have HGW5 := Lib.hid (HG5a.out.gb.lt)
                      clear hll hown hlin hlfit hgi hks hsh
                      have HFIN := Lib.hid (show ∀ (o2 : Option (PG × List Nat)), o = o2 → ((o2 = none ∧ st' = none) ∨ ∃ r, o2 = some ((IG.mk K D none 0 [] A1 c1 L).plain, r) ∧ st' = some r) → ∀ u0 u1 u2 u3, GPost S w R any o (.returned (.agg #[.int .i64 K, .int .i64 D, .slice none 0 0, .slice A1 i c1])) ((((wr.setCell ⟨w.heap.size, 0, none⟩ u0).setCell ⟨w.heap.size, 1, none⟩ u1).setCell ⟨w.heap.size, 2, none⟩ u2).setCell ⟨w.heap.size, 3, none⟩ u3) from fun o2 ho2 hcase u0 u1 u2 u3 => by
                        subst ho2
                        have hh := HG8.out.hi
                        have hgl := HGW5.out
                        have h := HGI.out.done u0 u1 u2 u3 (.mk K D none 0 [] A1 c1 L) (by
                          rw [IG.In]
                          refine ⟨⟨small_wf hK7, small_wf (by omega)⟩, ⟨Nat.zero_le _, by rw [HLL.out]; unfold big; omega⟩, ⟨Nat.le_refl _, by rw [HLL.out]; exact own_capR HOWN.out⟩, ⟨Sl.nil _ _ _, fun h => absurd h (Nat.lt_irrefl 0)⟩, ?_, IG.inL_iff.2 fun g hg => IG.less (fun a ha => by have h1 : w5.heap.size ≤ a := ha.1; show w.heap.size < a; omega) (HLIN.out g hg)⟩
                          rw [HLL.out]
                          exact SlS.less (own_sls HOWN.out) (fun a ha => by have h1 : w5.heap.size ≤ a := ha; show w.heap.size < a; omega)) (by
                          rw [IG.plain_eq, PG.fit]
                          refine ⟨⟨by simp, by rw [List.length_map, HLL.out]; omega⟩, fitL_iff.2 fun g hg => ?_⟩
                          obtain ⟨g', hg', rfl⟩ := List.mem_map.1 hg
                          exact HLF.out g' hg') hcase
                        rw [IG.enc, HLL.out] at h
                        exact h)
                      by_cases hlt2 : i < X
                      · have hiI : (i : Int) < (X : Int) := by omega
                        cases st' with
                        | none =>
                          have hdead := HKS.out.dead_o
                          go_wp2_with fail
                          refine bodyPost_ret (v := .agg #[.int .i64 K, .int .i64 D, .slice none 0 0, .slice A1 i c1]) (by simp [results, Tryz.results48, go_sem, z0, z1, z2, z3, zl, hK3]) rfl (HFIN.out none (HOL.out.1 hdead) (.inl (by simp)) _ _ _ _)
                        | some r =>
                          have hrf : r.length < fuel := HSH.out r rfl
                          obtain ⟨oc2, hoc2⟩ : ∃ oc2, oc2 = rdC bg r := ⟨_, rfl⟩
                          obtain ⟨Y, hY⟩ : ∃ Y, Y = (oc2.map (·.1)).getD 0 := ⟨_, rfl⟩
                          obtain ⟨st6, hst6⟩ : ∃ st6, st6 = oc2.map (·.2) := ⟨_, rfl⟩
                          have hY4 : Y ≤ 4096 := by
                            rw [hY]
                            cases hcc : rdC bg r with
                            | none => rw [hoc2, hcc]; decide
                            | some p => rw [hoc2, hcc]; exact (rdC_len hcc).2.2
                          have HC2 := Lib.hid (show ∀ w', Below wr.heap.size wr w' → Calls Tryz.prog 103 #[.pointer (some ⟨R, 0, none⟩), .bool bg] w' (fun e w'' => e = .returned (.int .i64 Y) ∧ wr.grownBy w'' (some R) ∧ RS S w'' R any st6) from fun w' hb => by
                            refine (count_calls (HGI.out.rs.below hb) bg).mono ?_
                            rintro e w'' ⟨x, rfl, h4, hg, hm⟩
                            rw [show (some r).bind (rdC bg) = oc2 from hoc2.symm] at hm
                            have hgg : wr.grownBy w'' (some R) := ⟨hg.os.trans hb.os, hg.tape.trans hb.tape, hg.output.trans hb.output, Nat.le_trans hb.size hg.size, fun j hj hne => (hg.block j (Nat.lt_of_lt_of_le hj hb.size) hne).trans (hb.block j hj)⟩
                            cases oc2 with
                            | none => exact ⟨by rw [hm.1, hY]; rfl, hgg, by rw [hst6]; exact hm.2⟩
                            | some p => exact ⟨by rw [hm.1, hY]; rfl, hgg, by rw [hst6]; exact hm.2⟩)
                          obtain ⟨W, hW⟩ : ∃ W, W = wd D := ⟨_, rfl⟩
                          have HW2 := Lib.hid (show ∀ w', Calls Tryz.prog 28 #[.int .i64 D] w' fun e w'' => e = .returned (.int .i64 W) ∧ w'' = w' by rw [hW]; exact width_calls hD4)
                          obtain ⟨N, hN⟩ : ∃ N, N = Y * W := ⟨_, rfl⟩
                          have hN4 : N ≤ 16384 := by
                            rw [hN, hW]
                            calc Y * wd D ≤ 4096 * 4 := Nat.mul_le_mul hY4 (wd_two D).2
                              _ = 16384 := rfl
                          have hmulE : (Y : Int) * (W : Int) = (N : Int) := by rw [hN]; exact (Int.natCast_mul Y W).symm
                          have hmul : IntKind.i64.wrap ((Y : Int) * (W : Int)) = (N : Int) := by rw [hmulE, IntKind.wrap_i64]; omega
                          have hmul2 : wrap64 ((Y : Int) * (W : Int)) = (N : Int) := by rw [hmulE, wrap64]; omega
                          have HN := Lib.hid (fun w' (hr : RS S w' R any st6) => nums_calls2 hr N hN4 bg)
                          obtain ⟨oN, hoN⟩ : ∃ oN, oN = st6.bind (rdN bg N) := ⟨_, rfl⟩
                          obtain ⟨oI, hoI⟩ : ∃ oI, oI = f r := ⟨_, rfl⟩
                          have hln := ring_law (f := rdG any fuel) hK3 (hoI.trans (congrFun HFE.out r)) hoc2 hY hst6 hW hN hoN
                          have HLN := Lib.hid hln
                          have HOI0 := Lib.hid hoI
                          have hoil : ∀ r', oI = some r' → r'.2.length ≤ r.length := fun r' e => by
                            rw [hoI, HFE.out] at e
                            exact (itemF_len (fun k bs g r h => rdG_len h) e).length_le
                          have HOIL0 := Lib.hid hoil
                          have HN4 := Lib.hid hN4
                          rw [← hoN] at HN
                          clear hoc2 hY hst6 hW hN hmulE hoN hoI hln hoil hN4
                          go_upto_region 19 with fail
                          have g3d : wr.drew.cell? ⟨G, 3, none⟩ = some (.slice A1 i c1) := g3
                          have g1d : wr.drew.cell? ⟨G, 1, none⟩ = some (.int .i64 D) := g1
                          clear g0 g2 f0 f1 f2 f3 z0 z1 z2 z3 y0 y1 y2 y3 zl k1 k2 k3 k4
                          rw [show Op.load 23 (Operand.tmp 93) = lateLoad 23 (Operand.tmp 93) from rfl]
                          go_region_held3 (fun w' => w'.cell? ⟨G, 1, none⟩ = some (.int .i64 D)) (first
                            | with_reducible exact a1
                            | with_reducible exact d1
                            | with_reducible exact d1a _
                            | with_reducible exact p1
                            | exact cell_beside p1 (by decide) _
                            | exact g1d) (first
                            | (refine step_append_sl _ (by rfl) _ _ _ (by rfl) w5.heap.size 25 i0 _ 4 64 Tryz.underlying23 hi hz0 hz1 hz2 rfl (by decide) (.slice A1 i c1) i (L.flatMap IG.enc) (by rfl) (ho7.alloc (.cells #[.int .i64 2, .int .i64 D, .slice A7 fs.length c7, .slice none 0 0] 25))
                                   (w7.alloc (.cells #[.int .i64 2, .int .i64 D, .slice A7 fs.length c7, .slice none 0 0] 25)).heap.size (some ⟨w7.heap.size, 0, none⟩) 1 1 [.int .i64 2, .int .i64 D, .slice A7 fs.length c7, .slice none 0 0] (by rfl) (slBlk (n := 1) (c := 4) (heap_alloc_new w7 _) rfl (by unfold maxLen; omega)) (IG.enc_one (.mk (2 : Nat) D A7 c7 fs none 0 [])) (by (try clear hmul hmul2); unfold maxLen; omega) (by (try clear hmul hmul2); omega) (by (try clear hmul hmul2); have := hw7s; have := hsr; simp; omega) ?_; intro A8 c8 w8 ho8 hg8 ha8
                               obtain ⟨p0, p1, p2, p3, pf0, pf1, pf2, pf3, pl⟩ := cells4 ((HG7.out.same ((Below.refl w7.heap.size w7).alloc (Nat.le_refl _) (.cells #[.int .i64 2, .int .i64 D, .slice A7 fs.length c7, .slice none 0 0] 25))).grown hg8 (fun q hq => by
                                   try clear hmul hmul2
                                   have h1 := (HOWN.out.lt q hq).1; have := HGW5.out; omega)).gb)
                            | (go_at_call 103; refine (HC2.out _ (Below.refl _ _).drew).mono ?_
                               rintro e6 w6 ⟨rfl, hg6, hr6⟩
                               obtain ⟨a0, a1, a2, a3, b0, b1, b2, b3, al⟩ := cells4 (HGI.out.read hg6 hr6).gb)
                            | (go_at_call 28; refine (HW2.out _).mono ?_; rintro e9 w9 ⟨rfl, h9⟩; obtain rfl := h9.symm)
                            | (go_at_call 102; refine (HN.out _ hr6).mono ?_
                               rintro e7 w7 ⟨A7, c7, fs, rfl, hs7, hn7, hcc7, hg7, hm7⟩
                               have hgg7 : wr.grownBy w7 (some R) := by first | exact grown_trans hg6 hg7
                               have hr7 : RS S w7 R any (oI.map (·.2)) := ring_rs hm7 HLN.out
                               have HG7 := Lib.hid (HGI.out.read hgg7 hr7)
                               obtain ⟨d0, d1, d2, d3, e0, e1, e2, e3, dl⟩ := cells4 HG7.out.gb
                               have d3a : ∀ ob, (w7.alloc ob).cell? ⟨G, 3, none⟩ = some (.slice A1 i c1) := fun ob => (cells4 (HG7.out.same ((Below.refl w7.heap.size w7).alloc (Nat.le_refl _) ob)).gb).2.2.2.1
                               have d1a : ∀ ob, (w7.alloc ob).cell? ⟨G, 1, none⟩ = some (.int .i64 D) := fun ob => (cells4 (HG7.out.same ((Below.refl w7.heap.size w7).alloc (Nat.le_refl _) ob)).gb).2.1
                               have ho7 := HOWN.out.kept hgg7 (.inr (fun e => by
                                 try clear hmul hmul2
                                 have h1 := (HOWN.out.lt R e).1; have h2 := HG8.out.hi; have h3 := HG8.out.lo; have h4 := HGW5.out; omega))
                               have hw7s : wr.heap.size ≤ w7.heap.size := hgg7.size
                               have HKW := Lib.hid (show Keeps (fun a => w5.heap.size ≤ a ∧ some a ≠ (Value.slice A1 i c1).ownBlock) wr w7 from Keeps.grown hgg7 (fun q hq ha => by
                                 cases hq
                                 try clear hmul hmul2
                                 have h1 : w5.heap.size ≤ R := ha.1; have h2 := HG8.out.hi; have h3 := HG8.out.lo; have h4 := HGW5.out; omega))
                               have HKID := Lib.hid (pt_in (T := fun a => wr.heap.size ≤ a) (w := w7) (D := D) hD4 (c := c7) (k := 2) (SlS.less hs7 (fun a ha => Nat.le_trans hg6.size ha)) (Nat.le_trans hn7 HN4.out) hcc7 (by decide))
                               have HOI := Lib.hid (show oI = f r ∧ (oI.map (·.1) = none ∨ oI.map (·.1) = some (IG.mk (2 : Nat) D A7 c7 fs none 0 []).plain) from ⟨HOI0.out, ring_val hm7 HLN.out⟩)
                               have HOIL := Lib.hid (show ∀ r', oI.map (·.2) = some r' → r'.length ≤ r.length from fun r' e => by
                                 cases hoi : oI with
                                 | none => rw [hoi] at e; cases e
                                 | some p =>
                                   rw [hoi] at e
                                   have h0 := HOIL0.out p hoi
                                   cases e
                                   exact h0)))
                          all_goals
                            have HHO8 := Lib.hid ho8
                            have HHG8 := Lib.hid hg8
                            have HHA8 := Lib.hid ha8
                            clear ho8 hg8 ha8
                            try clear hmul hmul2
                            go_wp2_with fail
                            go_roundg (X - (i + 1))
                            case measure => omega
                            case rel => exact part_next (g := .mk (2 : Nat) D A7 c7 fs none 0 []) hlt2 HLL.out HOWN.out HLIN.out HLF.out HKS.out HG7.out HGW5.out hw7s hsr HKW.out HKID.out HOI.out HOIL.out hrf HHO8.out HHG8.out HHA8.out (by go_num)
                      · obtain rfl : i = X := by omega
                        have hiI : (i : Int) ≤ (i : Int) := Int.le_refl _
                        go_wp2_with fail
                        refine bodyPost_ret (v := .agg #[.int .i64 K, .int .i64 D, .slice none 0 0, .slice A1 i c1]) (by simp [results, Tryz.results48, go_sem, z0, z1, z2, z3, zl, hK3]) rfl ?_
                        cases st' with
                        | none => exact HFIN.out none (HOL.out.1 HKS.out.dead_o) (.inl (by simp)) _ _ _ _
                        | some r =>
                          refine HFIN.out (some (.mk K D [] (L.map IG.plain), r)) (HOL.out.2 _ _ HKS.out.fin) (.inr ⟨r, ?_, rfl⟩) _ _ _ _
                          rw [IG.plain_eq]
                  · exfalso; omega
end Go.Proofs.YtbacakdpfiiblaaGreat.geo
