/-
  Contract of the reader of the reference: a geometry: a point, or none
-/
import Derived.Test.YtbacakdpfiiblaaGreatRdE
namespace Go.Proofs.YtbacakdpfiiblaaGreat.geo
open Go.ChangeShapes Go.WideShapes Go.ChangeAt Go.RowKit
open Go.Proofs.YtbacakdpfiiblaaGreat.mem
set_option linter.unusedVariables false
set_option linter.unusedSimpArgs false

set_option maxHeartbeats 16000000 in
set_option maxRecDepth 100000 in
theorem geom_pt (S : Nat → Prop) (any : Bool) (fuel : Nat) (ih : ∀ (w : World) (R : Nat) (l : List Nat) (kind : Int), RS S w R any (some l) → l.length < fuel → Calls Tryz.prog 48 #[.pointer (some ⟨R, 0, none⟩), .int .i64 kind] w (GPost S w R any (rdG any fuel kind l)))
    (w : World) (R : Nat) (l : List Nat) (kind : Int) (h : RS S w R any (some l)) (hf : l.length < fuel + 1) (hsel : ∀ b K D r, rdH any kind l = some ((b, K, D), r) → K = 1) :
    Calls Tryz.prog 48 #[.pointer (some ⟨R, 0, none⟩), .int .i64 kind] w (GPost S w R any (rdG any (fuel + 1) kind l)) := by
  have HIH := Lib.hid ih
  have HSEL := Lib.hid hsel
  clear hsel
  obtain ⟨o, ho⟩ : ∃ o, o = rdG any (fuel + 1) kind l := ⟨_, rfl⟩
  rw [← ho]
  have HO := Lib.hid (ho.trans (rdG_eq any fuel kind l))
  clear ho
  obtain ⟨w1, hw1⟩ : ∃ w1, w1 = w.alloc (.cells #[.int .i64 0, .int .i64 0, .slice none 0 0, .slice none 0 0] 25) := ⟨_, rfl⟩
  have hb1 : Below w.heap.size w w1 := by rw [hw1]; exact (Below.refl _ _).alloc (Nat.le_refl _) _
  have h1 := h.below hb1
  have HU1 := Lib.hid (uint_calls h1 1 (by omega) false)
  have HW1 := Lib.hid hw1
  have HR1 := Lib.hid h1
  have HZ1 := Lib.hid (show Blk w1 w.heap.size 25 #[.int .i64 0, .int .i64 0, .slice none 0 0, .slice none 0 0] by rw [hw1]; exact Blk.new _ _ _)
  have HB1 := Lib.hid hb1
  have hRw := h.lt
  have HBY := Lib.hid h.byt
  have HF := Lib.hid hf
  clear ih hw1 hb1 h1 h hf
  go_enter Tryz.func48, Tryz.ntmps48
  go_wp2_with fail
  rw [← HW1.out]
  refine HU1.out.mono ?_
  rintro e w2 ⟨x1, rfl, hg2, hx1⟩
  have HG2 := Lib.hid hg2
  obtain ⟨st1, hst1, hrs1⟩ : ∃ st1 : Option (List Nat), (match rdU 1 false l with | none => x1 = 0 ∧ st1 = none | some (y, r) => x1 = y ∧ st1 = some r) ∧ RS S w2 R any st1 := by
    cases hu : rdU 1 false l with
    | none =>
      rw [show (some l).bind (rdU 1 false) = none from hu] at hx1
      exact ⟨none, ⟨hx1.1, rfl⟩, hx1.2⟩
    | some p =>
      rw [show (some l).bind (rdU 1 false) = some p from hu] at hx1
      exact ⟨some p.2, ⟨hx1.1, rfl⟩, hx1.2⟩
  have HS1 := Lib.hid hst1
  have HU2 := Lib.hid (fun b => uint_calls hrs1 4 (by omega) b)
  have HRS1 := Lib.hid hrs1
  clear hg2 hx1 hst1 hrs1 HU1
  obtain ⟨bg, hbg⟩ : ∃ bg, bg = ((x1 : Int) == 0) := ⟨_, rfl⟩
  have hbg2 : bg = (x1 == 0) := by
    rw [hbg, Bool.eq_iff_iff, beq_iff_eq, beq_iff_eq]; omega
  have HBG := Lib.hid hbg2
  have HBQ := Lib.hid hbg
  go_wp2_with fail
  rw [← hbg]
  clear hbg2 hbg
  refine (HU2.out _).mono ?_
  rintro e w3 ⟨x2, rfl, hg3, hx2⟩
  obtain ⟨st2, hst2, hrs2, hx24⟩ : ∃ st2 : Option (List Nat), (match st1.bind (rdU 4 (x1 == 0)) with | none => x2 = 0 ∧ st2 = none | some (y, r) => x2 = y ∧ st2 = some r) ∧ RS S w3 R any st2 ∧ x2 < 4294967296 := by
    rw [← HBG.out]
    cases hu : st1.bind (rdU 4 bg) with
    | none =>
      rw [hu] at hx2
      exact ⟨none, ⟨hx2.1, rfl⟩, hx2.2, by rw [hx2.1]; decide⟩
    | some p =>
      rw [hu] at hx2
      refine ⟨some p.2, ⟨hx2.1, rfl⟩, hx2.2, ?_⟩
      obtain ⟨r1, hr1, hr2⟩ := Option.bind_eq_some_iff.1 hu
      rw [hx2.1]
      exact rdU_lt (RS.byt (by rw [← hr1]; exact HRS1.out)).1 hr2
  have HHL := Lib.hid (head_law (any := any) (kind := kind) HS1.out hst2)
  rw [← HBG.out] at HHL
  obtain ⟨q1, q2, q3⟩ := head_nums hx24
  have q4 : wrap64 ((x2 : Int) / 1000) = ((x2 / 1000 : Nat) : Int) := by
    rw [wrap64]; omega
  obtain ⟨C, hC⟩ : ∃ C, C = x2 % 1000 := ⟨_, rfl⟩
  obtain ⟨D, hD⟩ : ∃ D, D = x2 / 1000 := ⟨_, rfl⟩
  rw [← hC] at HHL q2
  rw [← hD] at HHL q3 q4
  have hCb : C < 1000 := by rw [hC]; exact Nat.mod_lt _ (by decide)
  have hDb : D < 4294968 := by omega
  obtain ⟨w4, hw4⟩ : ∃ w4, w4 = w3.alloc (.cells #[.int .i64 C, .int .i64 D, .slice none 0 0, .slice none 0 0] 25) := ⟨_, rfl⟩
  have hgi : GI S w R w3.heap.size any st2 C D (.slice none 0 0) (.slice none 0 0) w4 := by
    have hb4 : Below w3.heap.size w3 w4 := by rw [hw4]; exact (Below.refl _ _).alloc (Nat.le_refl _) _
    have s1 := HZ1.out.lt
    have s2 := HG2.out.size
    have s3 := hg3.size
    have hg13 := grown_trans HG2.out hg3
    have hne : some w.heap.size ≠ some R := fun e => by have := Option.some.inj e; omega
    refine ⟨hrs2.below hb4, by rw [hw4]; exact Blk.new _ _ _, (HZ1.out.grown hg13 hne).below hb4 (by omega), ?_, hRw, by omega⟩
    refine ⟨hb4.os.trans (hg13.os.trans HB1.out.os), hb4.tape.trans (hg13.tape.trans HB1.out.tape), hb4.output.trans (hg13.output.trans HB1.out.output), by have := hb4.size; omega, fun j hj hne => ?_⟩
    rw [hb4.block j (by omega), hg13.block j (by omega) hne, HB1.out.block j hj]
  have HW4 := Lib.hid hw4
  have HG4 := Lib.hid hgi
  obtain ⟨G, hG⟩ : ∃ G, G = w3.heap.size := ⟨_, rfl⟩
  rw [← hG] at HG4
  have HGe := Lib.hid hG
  clear hg3 hx2 hst2 hrs2 hC hD hw4 hgi hG hx24
  go_upto_region 5 with fail
  rw [← HW4.out, ← HGe.out]
  try rw [← HBQ.out]
  obtain ⟨g0, g1, g2, g3, -, -, -, -, gl⟩ := cells4 HG4.out.gb
  clear q1 q2 q3 q4
  go_cut [42] (fun c wx => c = .bool (decide (1 < x1 ∨ C < 1 ∨ 7 < C ∨ 3 < D)) ∧ wx = w4)
  case first =>
    by_cases c1 : 1 < x1
    · have d1 : (1 : Int) < (x1 : Int) := by omega
      go_wp2_with fail
      go_meet
      exact ⟨by rw [decide_eq_true (.inl c1)], rfl⟩
    have d1 : ¬ (1 : Int) < (x1 : Int) := by omega
    by_cases c2 : C < 1
    · have d2 : (C : Int) < 1 := by omega
      go_wp2_with fail
      go_meet
      exact ⟨by rw [decide_eq_true (.inr (.inl c2))], rfl⟩
    have d2 : ¬ (C : Int) < 1 := by omega
    by_cases c3 : 7 < C
    · have d3 : (7 : Int) < (C : Int) := by omega
      go_wp2_with fail
      go_meet
      exact ⟨by rw [decide_eq_true (.inr (.inr (.inl c3)))], rfl⟩
    have d3 : ¬ (7 : Int) < (C : Int) := by omega
    by_cases c4 : 3 < D
    · have d4 : (3 : Int) < (D : Int) := by omega
      go_wp2_with fail
      go_meet
      exact ⟨by rw [decide_eq_true (.inr (.inr (.inr c4)))], rfl⟩
    have d4 : ¬ (3 : Int) < (D : Int) := by omega
    go_wp2_with fail
    go_meet
    refine ⟨?_, rfl⟩
    rw [decide_eq_false (by omega)]
  case rest =>
    obtain ⟨rfl, hwc⟩ := hcut
    rw [hwc]
    clear hwc
    obtain ⟨bad, hbad⟩ : ∃ bad, bad = decide (1 < x1 ∨ C < 1 ∨ 7 < C ∨ 3 < D) := ⟨_, rfl⟩
    rw [← hbad]
    have HBAD := Lib.hid hbad
    obtain ⟨st3, hst3⟩ : ∃ st3, st3 = if bad then none else st2 := ⟨_, rfl⟩
    have HST3 := Lib.hid hst3
    clear hbad hst3
    go_upto_if 42 with fail
    go_cut [42] (fun c wx => c = .bool bad ∧ GI S w R G any st3 C D (.slice none 0 0) (.slice none 0 0) wx)
    case first =>
      obtain ⟨k1, k2, k3, k4⟩ := HG4.out.rs.cells
      cases bad with
      | true =>
        obtain rfl : st3 = none := HST3.out
        go_wp2_with fail
        go_meet
        exact ⟨rfl, HG4.out.bad⟩
      | false =>
        obtain rfl : st3 = st2 := HST3.out
        go_wp2_with fail
        go_meet
        exact ⟨rfl, HG4.out⟩
    case rest =>
      obtain ⟨rfl, hG5⟩ := hcut
      have HG5 := Lib.hid hG5
      obtain ⟨g0, g1, g2, g3, f0, f1, f2, f3, gl⟩ := cells4 hG5.gb
      clear hG5
      obtain ⟨K, hK⟩ : ∃ K : Nat, K = kdOf C := ⟨_, rfl⟩
      have HK := Lib.hid hK
      clear hK
      go_upto_if 48 with fail
      go_cut [48] (fun c wx => c = .bool ((C : Int) == 7) ∧ GI S w R G any st3 K D (.slice none 0 0) (.slice none 0 0) wx)
      case first =>
        by_cases c7 : C = 7
        · have e7 : ((C : Int) == 7) = true := beq_iff_eq.2 (by omega)
          obtain rfl : K = 0 := by rw [HK.out, c7]; rfl
          go_wp2_with fail
          go_meet
          exact ⟨by rw [e7], HG5.out.setG 0 _ (by simp)⟩
        · have e7 : ((C : Int) == 7) = false := beq_eq_false_iff_ne.2 (by omega)
          obtain rfl : K = C := by rw [HK.out]; unfold kdOf; rw [if_neg c7]
          go_wp2_with fail
          go_meet
          exact ⟨by rw [e7], HG5.out⟩
      case rest =>
        obtain ⟨rfl, hG6⟩ := hcut
        have HG6 := Lib.hid hG6
        clear g0 g1 g2 g3 f0 f1 f2 f3 gl
        obtain ⟨g0, g1, g2, g3, f0, f1, f2, f3, gl⟩ := cells4 hG6.gb
        obtain ⟨k1, k2, k3, k4⟩ := hG6.rs.cells
        clear hG6
        obtain ⟨b9, hb9⟩ : ∃ b9, b9 = decide (0 ≤ kind ∧ (K : Int) ≠ kind ∧ any = false) := ⟨_, rfl⟩
        have HB9 := Lib.hid hb9
        clear hb9
        go_upto_region 9 with fail
        go_cut [64] (fun c wx => c = .bool b9 ∧ GI S w R G any st3 K D (.slice none 0 0) (.slice none 0 0) wx)
        case first =>
          by_cases c1 : 0 ≤ kind
          · have d1 : decide (kind ≥ 0) = true := decide_eq_true c1
            by_cases c2 : (K : Int) = kind
            · have d2 : ((K : Int) != kind) = false := by rw [c2]; simp
              obtain rfl : b9 = false := by rw [HB9.out]; exact decide_eq_false (fun h => h.2.1 c2)
              go_wp2_with fail
              go_meet
              exact ⟨rfl, HG6.out⟩
            · have d2 : ((K : Int) != kind) = true := by simp [c2]
              cases any with
              | true =>
                obtain rfl : b9 = false := by rw [HB9.out]; exact decide_eq_false (fun h => by cases h.2.2)
                go_wp2_with fail
                go_meet
                exact ⟨rfl, HG6.out⟩
              | false =>
                obtain rfl : b9 = true := by rw [HB9.out]; exact decide_eq_true ⟨c1, c2, rfl⟩
                go_wp2_with fail
                go_meet
                exact ⟨rfl, HG6.out⟩
          · have d1 : kind < 0 := by omega
            obtain rfl : b9 = false := by rw [HB9.out]; exact decide_eq_false (fun h => c1 h.1)
            go_wp2_with fail
            go_meet
            exact ⟨rfl, HG6.out⟩
        case rest =>
          obtain ⟨rfl, hG7⟩ := hcut
          have HG7 := Lib.hid hG7
          clear g0 g1 g2 g3 f0 f1 f2 f3 gl k1 k2 k3 k4 hG7
          obtain ⟨st4, hst4⟩ : ∃ st4, st4 = if b9 then none else st3 := ⟨_, rfl⟩
          have HST4 := Lib.hid hst4
          clear hst4
          go_upto_if 64 with fail
          go_cut [64] (fun c wx => c = .bool b9 ∧ GI S w R G any st4 K D (.slice none 0 0) (.slice none 0 0) wx)
          case first =>
            obtain ⟨k1, k2, k3, k4⟩ := HG7.out.rs.cells
            cases b9 with
            | true =>
              obtain rfl : st4 = none := HST4.out
              go_wp2_with fail
              go_meet
              exact ⟨rfl, HG7.out.bad⟩
            | false =>
              obtain rfl : st4 = st3 := HST4.out
              go_wp2_with fail
              go_meet
              exact ⟨rfl, HG7.out⟩
          case rest =>
            obtain ⟨rfl, hG8⟩ := hcut
            have HG8 := Lib.hid hG8
            have hhead : HeadR any kind l bg K D st4 := by
              by_cases hbad : 1 < x1 ∨ C < 1 ∨ 7 < C ∨ 3 < D
              · have h1 : bad = true := by rw [HBAD.out]; exact decide_eq_true hbad
                have h3 : st3 = none := by rw [HST3.out, h1]; rfl
                have h4 : st4 = none := by rw [HST4.out, h3]; cases b9 <;> rfl
                rw [h4]
                exact HHL.out.1 hbad
              · have h1 : bad = false := by rw [HBAD.out]; exact decide_eq_false hbad
                obtain ⟨r2, h2, hh⟩ := HHL.out.2 hbad
                rw [← HK.out] at hh
                have h3 : st3 = some r2 := by rw [HST3.out, h1, ← h2]; rfl
                by_cases hk : 0 ≤ kind ∧ (K : Int) ≠ kind ∧ any = false
                · have h9 : b9 = true := by rw [HB9.out]; exact decide_eq_true hk
                  have h4 : st4 = none := by rw [HST4.out, h9]; rfl
                  rw [h4]
                  show rdH any kind l = none
                  rw [hh, if_pos hk]
                · have h9 : b9 = false := by rw [HB9.out]; exact decide_eq_false hk
                  have h4 : st4 = some r2 := by rw [HST4.out, h9, ← h3]; rfl
                  rw [h4]
                  show rdH any kind l = some ((bg, K, D), r2)
                  rw [hh, if_neg hk]
            have HHEAD := Lib.hid hhead
            clear hhead hG8
            obtain ⟨g0, g1, g2, g3, f0, f1, f2, f3, gl⟩ := cells4 HG8.out.gb
            obtain ⟨z0, z1, z2, z3, y0, y1, y2, y3, zl⟩ := cells4 HG8.out.zb
            obtain ⟨k1, k2, k3, k4⟩ := HG8.out.rs.cells
            cases st4 with
            | none =>
              have ho : o = none := by rw [HO.out, show rdH any kind l = none from HHEAD.out]
              go_wp2_with fail
              refine bodyPost_ret (v := .agg #[.int .i64 0, .int .i64 0, .slice none 0 0, .slice none 0 0]) (by simp [results, Tryz.results48, go_sem, z0, z1, z2, z3, zl]) rfl (HG8.out.done _ _ _ _ (.mk 0 0 none 0 [] none 0 []) (zero_in _ _) zero_fit (.inl ⟨by first | rfl | exact ho, rfl⟩))
            | some r2 =>
              have hhd : rdH any kind l = some ((bg, K, D), r2) := HHEAD.out
              have hsel := HSEL.out _ _ _ _ hhd
              have ho : o = rdB (rdG any fuel) any bg K D r2 := by rw [HO.out, hhd]
              have hlen := rdH_len hhd
              have HO2 := Lib.hid ho
              have hD4 : D < 4 := hlen.2.2.2
              have hK7 : K < 7 := hlen.2.2.1
              have hr2l : r2.length + 5 = l.length := hlen.2.1
              have HW := Lib.hid (@width_calls D hD4)
              have hwd := wd_two D
              clear hhd ho hlen
              by_cases hK1 : K = 1
              · subst hK1
                have HN := Lib.hid (nums_calls2 HG8.out.rs (wd D) (by omega) bg)
                obtain ⟨W, hW⟩ : ∃ W, W = wd D := ⟨_, rfl⟩
                rw [← hW] at HN HW hwd
                have HWD := Lib.hid hW
                clear hW
                go_wp2_with fail
                refine (HW.out _).mono ?_
                rintro e w9 ⟨rfl, hw9⟩
                obtain rfl := hw9.symm
                clear hw9
                go_wp2_with fail
                refine HN.out.mono ?_
                rintro e w5 ⟨A5, c5, fs, rfl, hs5, hn5, hcc5, hg5, hm5⟩
                obtain ⟨m5, hm5e⟩ : ∃ m5, m5 = fs.length := ⟨_, rfl⟩
                rw [← hm5e]
                have HM5 := Lib.hid hm5e
                obtain ⟨st5, hst5, hR5⟩ : ∃ st5 : Option (List Nat), ((rdN bg W r2 = none ∧ st5 = none) ∨ ∃ r, rdN bg W r2 = some (fs, r) ∧ st5 = some r) ∧ RS S w5 R any st5 := by
                  cases hu : rdN bg W r2 with
                  | none =>
                    rw [show (some r2).bind (rdN bg W) = none from hu] at hm5
                    exact ⟨none, .inl ⟨rfl, rfl⟩, hm5⟩
                  | some p =>
                    obtain ⟨ns, r⟩ := p
                    rw [show (some r2).bind (rdN bg W) = some (ns, r) from hu] at hm5
                    obtain ⟨rfl, hm5⟩ := hm5
                    exact ⟨some r, .inr ⟨r, rfl, rfl⟩, hm5⟩
                have hG9 := HG8.out.read hg5 hR5
                have hs9 := hG9.gb.lt
                have hG5s := hg5.size
                have hGwc : G < wc.heap.size := HG8.out.gb.lt
                have hG10 := hG9.setG 2 (.slice A5 m5 c5) (K' := (1 : Nat)) (D' := D) (v2' := .slice A5 m5 c5) (v3' := .slice none 0 0) (by simp)
                have hs10 : SlS (fun a => wc.heap.size ≤ a) (w5.setCell ⟨G, 2, none⟩ (.slice A5 m5 c5)) A5 fs.length 1 (FL fs) := hs5.keep (Keeps.set (p := ⟨G, 2, none⟩) (by show ¬ wc.heap.size ≤ G; omega) _)
                have HG10 := Lib.hid hG10
                have HS10 := Lib.hid hs10
                have HST5 := Lib.hid hst5
                have HN5 := Lib.hid hn5
                have HCC := Lib.hid hcc5
                obtain ⟨j0, j1, j2, j3, i0, i1, i2, i3, jl⟩ := cells4 hG9.gb
                clear hm5 hs5 hg5 hR5 hst5 hn5 hcc5 hG9 hG10 hs10 hm5e g0 g1 g2 g3 f0 f1 f2 f3 gl z0 z1 z2 z3 y0 y1 y2 y3 zl k1 k2 k3 k4 HN HW
                go_upto_region 23 with fail
                obtain ⟨w10, hw10⟩ : ∃ w10, w10 = w5.setCell ⟨G, 2, none⟩ (.slice A5 m5 c5) := ⟨_, rfl⟩
                rw [← hw10] at HG10 HS10 ⊢
                clear j0 j1 j2 j3 i0 i1 i2 i3 jl hw10
                obtain ⟨j0, j1, j2, j3, i0, i1, i2, i3, jl⟩ := cells4 HG10.out.gb
                obtain ⟨z0, z1, z2, z3, y0, y1, y2, y3, zl⟩ := cells4 HG10.out.zb
                obtain ⟨k1, k2, k3, k4⟩ := HG10.out.rs.cells
                cases st5 with
                | none =>
                  have ho : o = none := by
                    rcases HST5.out with ⟨h, -⟩ | ⟨r, -, h⟩
                    · rw [HO2.out]; exact rdB_pt_none (by rw [← HWD.out]; exact h)
                    · cases h
                  go_wp2_with fail
                  refine bodyPost_ret (v := .agg #[.int .i64 0, .int .i64 0, .slice none 0 0, .slice none 0 0]) (by simp [results, Tryz.results48, go_sem, z0, z1, z2, z3, zl]) rfl (HG10.out.done _ _ _ _ (.mk 0 0 none 0 [] none 0 []) (zero_in _ _) zero_fit (.inl ⟨by first | rfl | exact ho, rfl⟩))
                | some r5 =>
                  obtain ⟨hfsW, hrd⟩ : fs.length = W ∧ rdN bg W r2 = some (fs, r5) := by
                    rcases HST5.out with ⟨-, h⟩ | ⟨r, h, h'⟩
                    · cases h
                    · cases h'; exact ⟨(rdN_len h).2.2, h⟩
                  have hmW : m5 = W := HM5.out.trans hfsW
                  obtain ⟨b5, off5, hA5, hb5, hcell⟩ := HS10.out.1.2.2 (by rw [hfsW]; omega)
                  have q0 := hcell 0 _ (FL_get (by rw [hfsW]; omega))
                  have q1 := hcell 1 _ (FL_get (by rw [hfsW]; omega))
                  obtain ⟨X, hX⟩ : ∃ X, X = fs.getD 0 0 := ⟨_, rfl⟩
                  obtain ⟨Y, hY⟩ : ∃ Y, Y = fs.getD 1 0 := ⟨_, rfl⟩
                  rw [← hX] at q0
                  rw [← hY] at q1
                  have hoe : o = if nanB X && nanB Y then some (.mk 1 D [] [], r5) else if (nanB X || nanB Y) && !any then none else some (.mk 1 D fs [], r5) := by
                    rw [HO2.out, hX, hY]
                    exact rdB_pt_some (by rw [← HWD.out]; exact hrd)
                  have HOE := Lib.hid hoe
                  subst hA5
                  have hm0 : (0 : Int) < (m5 : Int) := by omega
                  have hm1 : (1 : Int) < (m5 : Int) := by omega
                  have eX : (FloatKind.f64.format.order X X != some .eq) = nanB X := nanB_ne X
                  have eY : (FloatKind.f64.format.order Y Y != some .eq) = nanB Y := nanB_ne Y
                  rw [Nat.add_zero] at q0
                  have HIN := Lib.hid (pt_in (T := fun a => w.heap.size < a) (w := w10) (D := D) hD4 (c := c5) (k := 1) (SlS.less HS10.out (fun a ha => by have h1 : wc.heap.size ≤ a := ha; have := HG8.out.hi; show w.heap.size < a; omega)) (by rw [hfsW]; omega) HCC.out (by decide))
                  clear hX hY hoe hrd hcell
                  go_upto_region 25 with fail
                  go_quiet (fail)
                  obtain ⟨w11, hw11⟩ : ∃ w11, w11 = w10.drewN nq := ⟨_, rfl⟩
                  rw [← hw11]
                  have hb11 : Below w10.heap.size w10 w11 := by rw [hw11]; exact drewN_below _ _ _
                  have HG11 := Lib.hid (HG10.out.same hb11)
                  have HIN11 := Lib.hid (And.intro (IG.up hb11 HIN.out.1) HIN.out.2)
                  clear hw11 hb11 j0 j1 j2 j3 i0 i1 i2 i3 jl z0 z1 z2 z3 y0 y1 y2 y3 zl k1 k2 k3 k4 q0 q1 hb5
                  obtain ⟨j0, j1, j2, j3, i0, i1, i2, i3, jl⟩ := cells4 HG11.out.gb
                  obtain ⟨z0, z1, z2, z3, y0, y1, y2, y3, zl⟩ := cells4 HG11.out.zb
                  obtain ⟨k1, k2, k3, k4⟩ := HG11.out.rs.cells
                  have hne : G ≠ w.heap.size := by have := HG11.out.hi; omega
                  have hne2 : R ≠ G := by have := HG11.out.hi; have := HG11.out.lo; omega
                  have hne3 : R ≠ w.heap.size := by have := HG11.out.lo; omega
                  obtain ⟨bx, hbx⟩ : ∃ bx, bx = nanB X := ⟨_, rfl⟩
                  obtain ⟨by', hby⟩ : ∃ by', by' = nanB Y := ⟨_, rfl⟩
                  rw [← hbx] at eX HOE
                  rw [← hby] at eY HOE
                  clear hbx hby
                  clear hmW
                  obtain rfl := HM5.out
                  obtain rfl : W = fs.length := hfsW.symm
                  clear hfsW
                  cases bx with
                  | true =>
                    cases by' with
                    | true =>
                      have HO3 := Lib.hid (show o = some (.mk 1 D [] [], r5) from HOE.out)
                      have hz := @pt_in (fun a => w.heap.size < a) (w11.setCell ⟨G, 2, none⟩ (.slice none 0 0)) D hD4 none 0 [] ⟨Sl.nil _ _ _, fun h => absurd h (Nat.lt_irrefl 0)⟩ (Nat.zero_le _) (Nat.zero_le _) 1 (by decide)
                      have HZ9 := Lib.hid hz
                      have HG12 := Lib.hid (HG11.out.setG 2 (.slice none 0 0) (K' := (1 : Nat)) (D' := D) (v2' := .slice none 0 0) (v3' := .slice none 0 0) (by simp))
                      clear hz
                      go_wp2_with fail
                      refine bodyPost_ret (v := .agg #[.int .i64 1, .int .i64 D, .slice none 0 0, .slice none 0 0]) (by simp [results, Tryz.results48, go_sem, z0, z1, z2, z3, zl]) rfl (HG12.out.done _ _ _ _ (.mk (1 : Nat) D none 0 [] none 0 []) HZ9.out.1 HZ9.out.2 (.inr ⟨r5, by first | rfl | exact HO3.out, rfl⟩))
                    | false =>
                      cases any with
                      | true =>
                        have HO3 := Lib.hid (show o = some (.mk 1 D fs [], r5) from HOE.out)
                        go_wp2_with fail
                        refine bodyPost_ret (v := .agg #[.int .i64 1, .int .i64 D, .slice (some ⟨b5, off5, none⟩) fs.length c5, .slice none 0 0]) (by simp [results, Tryz.results48, go_sem, z0, z1, z2, z3, zl]) rfl (HG11.out.done _ _ _ _ (.mk (1 : Nat) D (some ⟨b5, off5, none⟩) c5 fs none 0 []) HIN11.out.1 HIN11.out.2 (.inr ⟨r5, by first | rfl | exact HO3.out, rfl⟩))
                      | false =>
                        have HO3 := Lib.hid (show o = none from HOE.out)
                        go_wp2_with fail
                        refine bodyPost_ret (v := .agg #[.int .i64 1, .int .i64 D, .slice (some ⟨b5, off5, none⟩) fs.length c5, .slice none 0 0]) (by simp [results, Tryz.results48, go_sem, z0, z1, z2, z3, zl]) rfl (HG11.out.bad.done _ _ _ _ (.mk (1 : Nat) D (some ⟨b5, off5, none⟩) c5 fs none 0 []) (IG.keep (Keeps.set (p := ⟨R, 2, none⟩) (show ¬ w.heap.size < R by have := HG11.out.lo; omega) _) HIN11.out.1) HIN11.out.2 (.inl ⟨by first | rfl | exact HO3.out, rfl⟩))
                  | false =>
                    cases by' with
                    | true =>
                      cases any with
                      | true =>
                        have HO3 := Lib.hid (show o = some (.mk 1 D fs [], r5) from HOE.out)
                        go_wp2_with fail
                        refine bodyPost_ret (v := .agg #[.int .i64 1, .int .i64 D, .slice (some ⟨b5, off5, none⟩) fs.length c5, .slice none 0 0]) (by simp [results, Tryz.results48, go_sem, z0, z1, z2, z3, zl]) rfl (HG11.out.done _ _ _ _ (.mk (1 : Nat) D (some ⟨b5, off5, none⟩) c5 fs none 0 []) HIN11.out.1 HIN11.out.2 (.inr ⟨r5, by first | rfl | exact HO3.out, rfl⟩))
                      | false =>
                        have HO3 := Lib.hid (show o = none from HOE.out)
                        go_wp2_with fail
                        refine bodyPost_ret (v := .agg #[.int .i64 1, .int .i64 D, .slice (some ⟨b5, off5, none⟩) fs.length c5, .slice none 0 0]) (by simp [results, Tryz.results48, go_sem, z0, z1, z2, z3, zl]) rfl (HG11.out.bad.done _ _ _ _ (.mk (1 : Nat) D (some ⟨b5, off5, none⟩) c5 fs none 0 []) (IG.keep (Keeps.set (p := ⟨R, 2, none⟩) (show ¬ w.heap.size < R by have := HG11.out.lo; omega) _) HIN11.out.1) HIN11.out.2 (.inl ⟨by first | rfl | exact HO3.out, rfl⟩))
                    | false =>
                      have HO3 := Lib.hid (show o = some (.mk 1 D fs [], r5) from HOE.out)
                      go_wp2_with fail
                      refine bodyPost_ret (v := .agg #[.int .i64 1, .int .i64 D, .slice (some ⟨b5, off5, none⟩) fs.length c5, .slice none 0 0]) (by simp [results, Tryz.results48, go_sem, z0, z1, z2, z3, zl]) rfl (HG11.out.done _ _ _ _ (.mk (1 : Nat) D (some ⟨b5, off5, none⟩) c5 fs none 0 []) HIN11.out.1 HIN11.out.2 (.inr ⟨r5, by first | rfl | exact HO3.out, rfl⟩))
              · by_cases hK2 : K = 2
                · exfalso; omega
                · exfalso; omega
end Go.Proofs.YtbacakdpfiiblaaGreat.geo
