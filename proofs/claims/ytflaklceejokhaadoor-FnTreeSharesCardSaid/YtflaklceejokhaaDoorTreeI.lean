/-
  Contract: the partial sort: the walk.
-/
import Derived.Test.YtflaklceejokhaaDoorTreeH
namespace Go.Proofs.YtflaklceejokhaaDoor.tree
open Go.ChangeShapes Go.WideShapes Go.ChangeAt Go.RowKit
open Go.Proofs.YtflaklceejokhaaDoor.mem Go.Proofs.YtflaklceejokhaaDoor.flt Ieee
set_option linter.unusedVariables false
set_option linter.unusedSimpArgs false

def QPost (w : World) (g off n : Nat) (F : Nat → It) (e : Ending) (w' : World) : Prop := e = .returned (.tuple #[]) ∧ Row w' g off n F ∧ (∀ i, i < n → Gd (F i).b) ∧ Chg g off n w w'
theorem QW.post {w wr : World} {g off n c r : Nat} {h : Bool} {f : Nat → It} {s : Nat} (q : QW w wr g off n c r h f s) : QPost w g off n f (.returned (.tuple #[])) wr := ⟨rfl, q.row, q.good, q.chg⟩

set_option maxRecDepth 100000 in
set_option maxHeartbeats 16000000 in
theorem quick_calls (g off n c k : Nat) (h : Bool) (f : Nat → It) (hn : 2 ≤ n) (hn2 : n ≤ 400) (hk : k < n) (hG : ∀ i, i < n → Gd (f i).b) (w : World) (hRow : Row w g off n f) :
    Calls Tryd.prog 41 #[.slice (some ⟨g, off, none⟩) n c, .int .i64 k, .bool h] w (QPost w g off n (quick h n f k)) := by
  obtain ⟨r, hr⟩ : ∃ r, r = w.heap.size := ⟨_, rfl⟩
  obtain ⟨wA, hwA⟩ : ∃ wA, wA = ((w.alloc (.cells #[.slice (some ⟨g, off, none⟩) n c] 51)).alloc (.cells #[.bool h] 4)).alloc (.cells #[.int .u32 0] 125) := ⟨_, rfl⟩
  have hbA : Below w.heap.size w wA := by rw [hwA]; exact (((Below.refl _ _).alloc (Nat.le_refl _) _).alloc (by simp) _).alloc (by simp; omega) _
  have hq : QW w wA g off n c r h f 0 := by
    refine ⟨hRow.below hbA, hG, ?_, ?_, ?_, Chg.of_below hRow.1 hbA, hr.symm, hRow.1, by omega⟩
    · rw [hwA, hr]; exact ((Blk.new _ _ _).alloc _).alloc _
    · rw [hwA, hr]
      have := Blk.new (w.alloc (.cells #[.slice (some ⟨g, off, none⟩) n c] 51)) 4 #[.bool h]
      rw [show (w.alloc (.cells #[.slice (some ⟨g, off, none⟩) n c] 51)).heap.size = w.heap.size + 1 by simp] at this
      exact this.alloc _
    · rw [hwA, hr]
      have := Blk.new ((w.alloc (.cells #[.slice (some ⟨g, off, none⟩) n c] 51)).alloc (.cells #[.bool h] 4)) 125 #[.int .u32 0]
      simpa using this
  have HQ := Lib.hid hq
  have HWA := Lib.hid hwA
  have HR := Lib.hid hr
  have c0 : wA.cell? ⟨r, 0, none⟩ = some (.slice (some ⟨g, off, none⟩) n c) := hq.b1.cell 0
  have rl := hq.b1.lt
  have y1 : IntKind.i64.wrap ((n : Int) - 1) = ((n - 1 : Nat) : Int) := by rw [show (n : Int) - 1 = ((n - 1 : Nat) : Int) by omega]; exact IntWalk.i64_in _ (by omega)
  have y2 : wrap64 ((n : Int) - 1) = ((n - 1 : Nat) : Int) := by unfold wrap64; omega
  obtain ⟨F, hF⟩ : ∃ F, F = quick h n f k := ⟨_, rfl⟩
  have HF := Lib.hid hF
  rw [← hF]
  clear hbA hq hwA hr hRow hG hF
  go_enter Tryd.func41, Tryd.ntmps41
  go_wp2_with fail
  rw [← HWA.out, ← HR.out]
  go_quiet (fail)
  go_wp2_with fail
  obtain ⟨w0, hw0⟩ : ∃ w0, w0 = wA.drewN nq := ⟨_, rfl⟩
  rw [← hw0]
  have HQ0 : Hid (QW w w0 g off n c r h f 0) := Lib.hid (by rw [hw0]; exact HQ.out.below (drewN_below _ _ _))
  clear hw0 c0 rl
  go_loopg [1, 10, 11] (n - 1) (fun q ck cl cr wr => ∃ (f' : Nat → It) (l R k' s u : Nat), k' ≤ q ∧ R = l + q ∧ R < n ∧ q < u ∧ qp h u f' l R k' s = F ∧ ck = .int .i64 k' ∧ cl = .int .i64 l ∧ cr = .int .i64 R ∧ QW w wr g off n c r h f' s)
  case atStart => exact ⟨f, 0, n - 1, k, 0, n + 1, by omega, by omega, by omega, by omega, HF.out.symm, rfl, by go_num, rfl, HQ0.out⟩
  case round =>
    obtain ⟨f', l, R, k', s, u, hkq, hR, hRn, hqu, hqp, rfl, rfl, rfl, hw⟩ := hrel
    obtain ⟨G, hGg⟩ : ∃ G, G = gk := ⟨_, rfl⟩
    subst hGg
    have HW := Lib.hid hw
    obtain ⟨u, rfl⟩ : ∃ v, u = v + 1 := ⟨u - 1, by omega⟩
    have HQP := Lib.hid hqp
    have HRE := Lib.hid hR
    have hlR : l ≤ R := by omega
    have hgk : G ≤ 400 := by omega
    have hs1 : (R : Int) - (l : Int) = (G : Int) := by omega
    have hs2 : IntKind.i64.wrap (G : Int) = (G : Int) := IntWalk.i64_in _ (by omega)
    clear hw hqp hR
    by_cases q1 : G = 1
    · skip
      --[
      have t1 : ((G : Int) == 1) = true := by rw [q1]; rfl
      have hlR1 : R = l + 1 := by have := HRE.out; omega
      have HQ1 := Lib.hid q1
      have HR1 := Lib.hid hlR1
      clear q1 hlR1
      obtain ⟨t, ht⟩ : ∃ t, t = lessB h (f' R) (f' l) := ⟨_, rfl⟩
      have HT := Lib.hid ht
      have hF : F = if t = true then swapF f' R l else f' := by
        rw [← HQP.out, ht]
        unfold qp
        rw [if_pos (by have := HR1.out; omega)]
      have HFF := Lib.hid hF
      clear ht hF
      go_wp2_with fail
      refine (less_z hn2 HW.out (i := R) (j := l) rfl rfl (by omega) (by omega)).mono ?_
      rintro e w2 ⟨rfl, hw2⟩
      rw [← HT.out]
      have HW2 := Lib.hid hw2
      clear hw2
      cases t
      · go_wp2_with fail
        refine bodyPost_ret (results_none rfl _ _ _) rfl ?_
        rw [HFF.out]
        exact HW2.out.post
      · go_wp2_with fail
        refine (swap_z hn2 HW2.out (i := R) (j := l) rfl rfl (by omega) (by omega)).mono ?_
        rintro e w3 ⟨rfl, hw3⟩
        have HW3 := Lib.hid hw3
        clear hw3
        go_wp2_with fail
        refine bodyPost_ret (results_none rfl _ _ _) rfl ?_
        rw [HFF.out]
        exact HW3.out.post
      --]
    · have t1 : ((G : Int) == 1) = false := by rw [beq_eq_false_iff_ne]; omega
      by_cases q2 : G = 2
      · skip
        --[
        have t2 : ((G : Int) == 2) = true := by rw [q2]; rfl
        have hlR1 : R = l + 2 := by have := HRE.out; omega
        have HR1 := Lib.hid hlR1
        obtain ⟨t, ht⟩ : ∃ t, t = lessB h (f' (l + 1)) (f' l) := ⟨_, rfl⟩
        have HT := Lib.hid ht
        have hF : F = T2 h (if t = true then swapF f' (l + 1) l else f') l := by
          rw [← HQP.out, ht, ← three_T2]
          unfold qp
          rw [if_neg (by have := HR1.out; omega), if_pos (by have := HR1.out; omega)]
        have HFF := Lib.hid hF
        clear ht hF q2 hlR1 q1
        go_wp2_with fail
        refine (less_z hn2 HW.out (i := l + 1) (j := l) (by omega) rfl (by have := HR1.out; omega) (by omega)).mono ?_
        rintro e w2 ⟨rfl, hw2⟩
        rw [← HT.out]
        have HW2 := Lib.hid hw2
        clear hw2
        cases t
        · obtain ⟨f1, hf1⟩ : ∃ f1, f1 = f' := ⟨_, rfl⟩
          have HW3 : Hid (QW w w2 g off n c r h f1 s) := Lib.hid (by rw [hf1]; exact HW2.out)
          have HF3 : Hid (F = T2 h f1 l) := Lib.hid (by rw [HFF.out, hf1]; rfl)
          clear hf1 HW2 HFF
          go_wp2_with fail
          obtain ⟨t, ht⟩ : ∃ t, t = lessB h (f1 (l + 2)) (f1 (l + 1)) := ⟨_, rfl⟩
          have HT2 := Lib.hid ht
          clear ht
          refine (less_z hn2 HW3.out (i := l + 2) (j := l + 1) (by omega) (by omega) (by have := HR1.out; omega) (by have := HR1.out; omega)).mono ?_
          rintro e w4 ⟨rfl, hw4⟩
          rw [← HT2.out]
          have HW4 := Lib.hid hw4
          clear hw4
          cases t
          · go_wp2_with fail
            refine bodyPost_ret (results_none rfl _ _ _) rfl ?_
            rw [HF3.out, T2, ← HT2.out, if_neg (by simp)]
            exact HW4.out.post
          · go_wp2_with fail
            refine (swap_z hn2 HW4.out (i := l + 2) (j := l + 1) (by omega) (by omega) (by have := HR1.out; omega) (by have := HR1.out; omega)).mono ?_
            rintro e w5 ⟨rfl, hw5⟩
            have HW5 := Lib.hid hw5
            clear hw5
            obtain ⟨t, ht⟩ : ∃ t, t = lessB h (swapF f1 (l + 2) (l + 1) (l + 1)) (swapF f1 (l + 2) (l + 1) l) := ⟨_, rfl⟩
            have HT3 := Lib.hid ht
            clear ht
            go_wp2_with fail
            refine (less_z hn2 HW5.out (i := l + 1) (j := l) (by omega) rfl (by have := HR1.out; omega) (by omega)).mono ?_
            rintro e w6 ⟨rfl, hw6⟩
            rw [← HT3.out]
            have HW6 := Lib.hid hw6
            clear hw6
            cases t
            · go_wp2_with fail
              refine bodyPost_ret (results_none rfl _ _ _) rfl ?_
              rw [HF3.out, T2, ← HT2.out, if_pos rfl, ← HT3.out, if_neg (by simp)]
              exact HW6.out.post
            · go_wp2_with fail
              refine (swap_z hn2 HW6.out (i := l + 1) (j := l) (by omega) rfl (by have := HR1.out; omega) (by omega)).mono ?_
              rintro e w7 ⟨rfl, hw7⟩
              have HW7 := Lib.hid hw7
              clear hw7
              go_wp2_with fail
              refine bodyPost_ret (results_none rfl _ _ _) rfl ?_
              rw [HF3.out, T2, ← HT2.out, if_pos rfl, ← HT3.out, if_pos rfl]
              exact HW7.out.post
        · go_wp2_with fail
          refine (swap_z hn2 HW2.out (i := l + 1) (j := l) (by omega) rfl (by have := HR1.out; omega) (by omega)).mono ?_
          rintro e w3 ⟨rfl, hw3⟩
          obtain ⟨f1, hf1⟩ : ∃ f1, f1 = swapF f' (l + 1) l := ⟨_, rfl⟩
          have HW3 : Hid (QW w w3 g off n c r h f1 s) := Lib.hid (by rw [hf1]; exact hw3)
          have HF3 : Hid (F = T2 h f1 l) := Lib.hid (by rw [HFF.out, hf1]; rfl)
          clear hf1 hw3 HW2 HFF
          go_wp2_with fail
          obtain ⟨t, ht⟩ : ∃ t, t = lessB h (f1 (l + 2)) (f1 (l + 1)) := ⟨_, rfl⟩
          have HT2 := Lib.hid ht
          clear ht
          refine (less_z hn2 HW3.out (i := l + 2) (j := l + 1) (by omega) (by omega) (by have := HR1.out; omega) (by have := HR1.out; omega)).mono ?_
          rintro e w4 ⟨rfl, hw4⟩
          rw [← HT2.out]
          have HW4 := Lib.hid hw4
          clear hw4
          cases t
          · go_wp2_with fail
            refine bodyPost_ret (results_none rfl _ _ _) rfl ?_
            rw [HF3.out, T2, ← HT2.out, if_neg (by simp)]
            exact HW4.out.post
          · go_wp2_with fail
            refine (swap_z hn2 HW4.out (i := l + 2) (j := l + 1) (by omega) (by omega) (by have := HR1.out; omega) (by have := HR1.out; omega)).mono ?_
            rintro e w5 ⟨rfl, hw5⟩
            have HW5 := Lib.hid hw5
            clear hw5
            obtain ⟨t, ht⟩ : ∃ t, t = lessB h (swapF f1 (l + 2) (l + 1) (l + 1)) (swapF f1 (l + 2) (l + 1) l) := ⟨_, rfl⟩
            have HT3 := Lib.hid ht
            clear ht
            go_wp2_with fail
            refine (less_z hn2 HW5.out (i := l + 1) (j := l) (by omega) rfl (by have := HR1.out; omega) (by omega)).mono ?_
            rintro e w6 ⟨rfl, hw6⟩
            rw [← HT3.out]
            have HW6 := Lib.hid hw6
            clear hw6
            cases t
            · go_wp2_with fail
              refine bodyPost_ret (results_none rfl _ _ _) rfl ?_
              rw [HF3.out, T2, ← HT2.out, if_pos rfl, ← HT3.out, if_neg (by simp)]
              exact HW6.out.post
            · go_wp2_with fail
              refine (swap_z hn2 HW6.out (i := l + 1) (j := l) (by omega) rfl (by have := HR1.out; omega) (by omega)).mono ?_
              rintro e w7 ⟨rfl, hw7⟩
              have HW7 := Lib.hid hw7
              clear hw7
              go_wp2_with fail
              refine bodyPost_ret (results_none rfl _ _ _) rfl ?_
              rw [HF3.out, T2, ← HT2.out, if_pos rfl, ← HT3.out, if_pos rfl]
              exact HW7.out.post
        --]
      · have t2 : ((G : Int) == 2) = false := by rw [beq_eq_false_iff_ne]; omega
        have hpl := pick_lt s (G + 1) (by omega)
        have hF := HQP.out
        unfold qp at hF
        rw [if_neg (by have := HRE.out; omega), if_neg (by have := HRE.out; omega)] at hF
        obtain ⟨PP, hPP⟩ : ∃ PP, PP = qp1 h f' l R s := ⟨_, rfl⟩
        rw [← hPP] at hF
        have HFF := Lib.hid hF
        unfold qp1 at hPP
        rw [show R - l = G by have := HRE.out; omega] at hPP
        obtain ⟨pv, hpv⟩ : ∃ pv, pv = pick s (G + 1) := ⟨_, rfl⟩
        rw [← hpv] at hPP hpl
        have HPV := Lib.hid hpv
        have HPP := Lib.hid hPP
        clear hF hPP hpv
        go_wp2_with fail
        refine (rnd_z HW.out (m := G + 1) (by omega) (by omega)).mono ?_
        rintro e w2 ⟨rfl, hw2⟩
        rw [← HPV.out]
        have HW2 := Lib.hid hw2
        have hpR : l + pv ≤ R := by have := HRE.out; omega
        obtain ⟨p, hp⟩ : ∃ p, p = l + pv := ⟨_, rfl⟩
        have hp1 : IntKind.i64.wrap ((l : Int) + (pv : Int)) = (p : Int) := by rw [hp]; rw [show ((l + pv : Nat) : Int) = (l : Int) + (pv : Int) by omega]; exact IntWalk.i64_in _ (by omega)
        have hp2 : (l : Int) + (pv : Int) = (p : Int) := by omega
        rw [← hp] at hpR HPP
        have HP := Lib.hid hp
        clear hw2 hp
        by_cases hpe : p = R
        · have t3 : ((p : Int) == (R : Int)) = true := by rw [hpe]; simp
          have t4 : ((p : Int) != (R : Int)) = false := by rw [hpe]; simp
          have HPE := Lib.hid hpe
          clear hpe
          obtain ⟨f1, hf1⟩ : ∃ f1, f1 = f' := ⟨_, rfl⟩
          have HW3 : Hid (QW w w2 g off n c r h f1 (nxt s)) := Lib.hid (by rw [hf1]; exact HW2.out)
          have HP3 : Hid (PP = parts h R G f1 l l) := Lib.hid (by rw [HPP.out, hf1, if_pos HPE.out])
          clear hf1 HW2 HPP
          go_wp2_with fail
          obtain ⟨wo, hwo⟩ : ∃ wo : World, wo = w2 := ⟨_, rfl⟩
          have HWO := Lib.hid hwo
          clear hwo
          go_loopg [13, 14] G (fun q2 cj ci wr => ∃ (f2 : Nat → It) (i j : Nat), i + q2 = R ∧ l ≤ j ∧ j ≤ i ∧ parts h R q2 f2 i j = PP ∧ cj = .int .i64 j ∧ ci = .int .i64 i ∧ QW w wr g off n c r h f2 (nxt s))
          case atStart => exact ⟨f1, l, l, by have := HRE.out; omega, Nat.le_refl _, Nat.le_refl _, HP3.out.symm, rfl, rfl, HW3.out⟩
          case round =>
            obtain ⟨f2, i, j, hi', hlj, hji, hpp, rfl, rfl, hw4⟩ := hrel
            have HI := Lib.hid hi'
            have HPQ := Lib.hid hpp
            have HW4 := Lib.hid hw4
            have hiR : i ≤ R := by omega
            clear hpp hw4
            by_cases hlt : i < R
            · obtain ⟨d, hd⟩ : ∃ d, gk = d + 1 := ⟨gk - 1, by omega⟩
              obtain ⟨t, ht⟩ : ∃ t, t = lessB h (f2 i) (f2 R) := ⟨_, rfl⟩
              have HT := Lib.hid ht
              have HPR : Hid ((if t = true then parts h R d (swapF f2 i j) (i + 1) (j + 1) else parts h R d f2 (i + 1) j) = PP) := Lib.hid (by
                have := HPQ.out
                rw [hd] at this
                unfold parts at this
                rw [ht]; exact this)
              have HDD := Lib.hid hd
              clear ht hd
              go_wp2_with fail
              refine (less_z hn2 HW4.out (i := i) (j := R) rfl rfl (by omega) (by omega)).mono ?_
              rintro e w5 ⟨rfl, hw5⟩
              rw [← HT.out]
              have HW5 := Lib.hid hw5
              clear hw5
              cases t
              · go_wp2_with fail
                go_roundg d
                case measure => have := HDD.out; omega
                case rel =>
                  have h1 := HPR.out
                  rw [if_neg (by simp)] at h1
                  exact ⟨f2, i + 1, j, by have := HI.out; have := HDD.out; omega, hlj, by omega, h1, rfl, by go_num, HW5.out⟩
              · go_wp2_with fail
                refine (swap_z hn2 HW5.out (i := i) (j := j) rfl rfl (by omega) (by omega)).mono ?_
                rintro e w6 ⟨rfl, hw6⟩
                have HW6 := Lib.hid hw6
                clear hw6
                go_wp2_with fail
                go_roundg d
                case measure => have := HDD.out; omega
                case rel =>
                  have h1 := HPR.out
                  first | rw [if_pos rfl] at h1 | rw [if_pos trivial] at h1
                  exact ⟨swapF f2 i j, i + 1, j + 1, by have := HI.out; have := HDD.out; omega, by omega, by omega, h1, by go_num, by go_num, HW6.out⟩
            · obtain rfl : gk = 0 := by omega
              have HPE2 : Hid ((f2, j) = PP) := Lib.hid HPQ.out
              clear HPQ
              have hjR : j ≤ R := by omega
              go_wp2_with fail
              refine (swap_z hn2 HW4.out (i := R) (j := j) rfl rfl (by omega) (by omega)).mono ?_
              rintro e w5 ⟨rfl, hw5⟩
              have HW5 := Lib.hid hw5
              have hF := HFF.out
              rw [← HPE2.out] at hF
              have HF5 := Lib.hid hF
              have hsj : (j : Int) - (l : Int) = ((j - l : Nat) : Int) := by omega
              have hsj2 : IntKind.i64.wrap ((j - l : Nat) : Int) = ((j - l : Nat) : Int) := IntWalk.i64_in _ (by omega)
              clear hw5 hF
              by_cases k1 : j - l < k'
              · have t5 : ((j - l : Nat) : Int) < (k' : Int) := by omega
                have HF6 : Hid (qp h u (swapF f2 R j) (j + 1) R (k' - (j - l + 1)) (nxt s) = F) := Lib.hid (by have := HF5.out; rw [if_pos k1] at this; exact this)
                go_wp2_with fail
                go_roundg (R - (j + 1))
                case measure => have := HRE.out; omega
                case rel =>
                  have := HRE.out
                  exact ⟨swapF f2 R j, j + 1, R, k' - (j - l + 1), nxt s, u, by omega, by omega, hRn, by omega, HF6.out, by go_num, by go_num, rfl, HW5.out⟩
              · by_cases k2 : k' < j - l
                · have t5 : ¬ ((j - l : Nat) : Int) < (k' : Int) := by omega
                  have t6 : (k' : Int) < ((j - l : Nat) : Int) := by omega
                  have HF6 : Hid (qp h u (swapF f2 R j) l (j - 1) k' (nxt s) = F) := Lib.hid (by have := HF5.out; rw [if_neg k1, if_pos k2] at this; exact this)
                  go_wp2_with fail
                  go_roundg (j - 1 - l)
                  case measure => have := HRE.out; omega
                  case rel =>
                    have := HRE.out
                    exact ⟨swapF f2 R j, l, j - 1, k', nxt s, u, by omega, by omega, by omega, by omega, HF6.out, rfl, rfl, by go_num, HW5.out⟩
                · have t5 : ¬ ((j - l : Nat) : Int) < (k' : Int) := by omega
                  have t6 : ¬ (k' : Int) < ((j - l : Nat) : Int) := by omega
                  have HF6 : Hid (swapF f2 R j = F) := Lib.hid (by have := HF5.out; rw [if_neg k1, if_neg k2] at this; exact this)
                  go_wp2_with fail
                  refine bodyPost_ret (results_none rfl _ _ _) rfl ?_
                  rw [← HF6.out]
                  exact HW5.out.post
        · have t3 : ((p : Int) == (R : Int)) = false := by rw [beq_eq_false_iff_ne]; omega
          have t4 : ((p : Int) != (R : Int)) = true := by rw [bne_iff_ne]; omega
          go_wp2_with fail
          refine (swap_z hn2 HW2.out (i := p) (j := R) rfl rfl (by omega) (by omega)).mono ?_
          rintro e w3 ⟨rfl, hw3⟩
          obtain ⟨f1, hf1⟩ : ∃ f1, f1 = swapF f' p R := ⟨_, rfl⟩
          have HW3 : Hid (QW w w3 g off n c r h f1 (nxt s)) := Lib.hid (by rw [hf1]; exact hw3)
          have HP3 : Hid (PP = parts h R G f1 l l) := Lib.hid (by rw [HPP.out, hf1, if_neg hpe])
          clear hf1 hw3 HW2 HPP hpe
          go_wp2_with fail
          obtain ⟨wo, hwo⟩ : ∃ wo : World, wo = w3 := ⟨_, rfl⟩
          have HWO := Lib.hid hwo
          clear hwo
          go_loopg [13, 14] G (fun q2 cj ci wr => ∃ (f2 : Nat → It) (i j : Nat), i + q2 = R ∧ l ≤ j ∧ j ≤ i ∧ parts h R q2 f2 i j = PP ∧ cj = .int .i64 j ∧ ci = .int .i64 i ∧ QW w wr g off n c r h f2 (nxt s))
          case atStart => exact ⟨f1, l, l, by have := HRE.out; omega, Nat.le_refl _, Nat.le_refl _, HP3.out.symm, rfl, rfl, HW3.out⟩
          case round =>
            obtain ⟨f2, i, j, hi', hlj, hji, hpp, rfl, rfl, hw4⟩ := hrel
            have HI := Lib.hid hi'
            have HPQ := Lib.hid hpp
            have HW4 := Lib.hid hw4
            have hiR : i ≤ R := by omega
            clear hpp hw4
            by_cases hlt : i < R
            · obtain ⟨d, hd⟩ : ∃ d, gk = d + 1 := ⟨gk - 1, by omega⟩
              obtain ⟨t, ht⟩ : ∃ t, t = lessB h (f2 i) (f2 R) := ⟨_, rfl⟩
              have HT := Lib.hid ht
              have HPR : Hid ((if t = true then parts h R d (swapF f2 i j) (i + 1) (j + 1) else parts h R d f2 (i + 1) j) = PP) := Lib.hid (by
                have := HPQ.out
                rw [hd] at this
                unfold parts at this
                rw [ht]; exact this)
              have HDD := Lib.hid hd
              clear ht hd
              go_wp2_with fail
              refine (less_z hn2 HW4.out (i := i) (j := R) rfl rfl (by omega) (by omega)).mono ?_
              rintro e w5 ⟨rfl, hw5⟩
              rw [← HT.out]
              have HW5 := Lib.hid hw5
              clear hw5
              cases t
              · go_wp2_with fail
                go_roundg d
                case measure => have := HDD.out; omega
                case rel =>
                  have h1 := HPR.out
                  rw [if_neg (by simp)] at h1
                  exact ⟨f2, i + 1, j, by have := HI.out; have := HDD.out; omega, hlj, by omega, h1, rfl, by go_num, HW5.out⟩
              · go_wp2_with fail
                refine (swap_z hn2 HW5.out (i := i) (j := j) rfl rfl (by omega) (by omega)).mono ?_
                rintro e w6 ⟨rfl, hw6⟩
                have HW6 := Lib.hid hw6
                clear hw6
                go_wp2_with fail
                go_roundg d
                case measure => have := HDD.out; omega
                case rel =>
                  have h1 := HPR.out
                  first | rw [if_pos rfl] at h1 | rw [if_pos trivial] at h1
                  exact ⟨swapF f2 i j, i + 1, j + 1, by have := HI.out; have := HDD.out; omega, by omega, by omega, h1, by go_num, by go_num, HW6.out⟩
            · obtain rfl : gk = 0 := by omega
              have HPE2 : Hid ((f2, j) = PP) := Lib.hid HPQ.out
              clear HPQ
              have hjR : j ≤ R := by omega
              go_wp2_with fail
              refine (swap_z hn2 HW4.out (i := R) (j := j) rfl rfl (by omega) (by omega)).mono ?_
              rintro e w5 ⟨rfl, hw5⟩
              have HW5 := Lib.hid hw5
              have hF := HFF.out
              rw [← HPE2.out] at hF
              have HF5 := Lib.hid hF
              have hsj : (j : Int) - (l : Int) = ((j - l : Nat) : Int) := by omega
              have hsj2 : IntKind.i64.wrap ((j - l : Nat) : Int) = ((j - l : Nat) : Int) := IntWalk.i64_in _ (by omega)
              clear hw5 hF
              by_cases k1 : j - l < k'
              · have t5 : ((j - l : Nat) : Int) < (k' : Int) := by omega
                have HF6 : Hid (qp h u (swapF f2 R j) (j + 1) R (k' - (j - l + 1)) (nxt s) = F) := Lib.hid (by have := HF5.out; rw [if_pos k1] at this; exact this)
                go_wp2_with fail
                go_roundg (R - (j + 1))
                case measure => have := HRE.out; omega
                case rel =>
                  have := HRE.out
                  exact ⟨swapF f2 R j, j + 1, R, k' - (j - l + 1), nxt s, u, by omega, by omega, hRn, by omega, HF6.out, by go_num, by go_num, rfl, HW5.out⟩
              · by_cases k2 : k' < j - l
                · have t5 : ¬ ((j - l : Nat) : Int) < (k' : Int) := by omega
                  have t6 : (k' : Int) < ((j - l : Nat) : Int) := by omega
                  have HF6 : Hid (qp h u (swapF f2 R j) l (j - 1) k' (nxt s) = F) := Lib.hid (by have := HF5.out; rw [if_neg k1, if_pos k2] at this; exact this)
                  go_wp2_with fail
                  go_roundg (j - 1 - l)
                  case measure => have := HRE.out; omega
                  case rel =>
                    have := HRE.out
                    exact ⟨swapF f2 R j, l, j - 1, k', nxt s, u, by omega, by omega, by omega, by omega, HF6.out, rfl, rfl, by go_num, HW5.out⟩
                · have t5 : ¬ ((j - l : Nat) : Int) < (k' : Int) := by omega
                  have t6 : ¬ (k' : Int) < ((j - l : Nat) : Int) := by omega
                  have HF6 : Hid (swapF f2 R j = F) := Lib.hid (by have := HF5.out; rw [if_neg k1, if_neg k2] at this; exact this)
                  go_wp2_with fail
                  refine bodyPost_ret (results_none rfl _ _ _) rfl ?_
                  rw [← HF6.out]
                  exact HW5.out.post
end Go.Proofs.YtflaklceejokhaaDoor.tree
