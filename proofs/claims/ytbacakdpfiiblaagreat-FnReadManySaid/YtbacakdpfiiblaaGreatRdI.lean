/-
  Contract of the package's reader: the bytes of each eight turned.
-/
import Derived.Test.YtbacakdpfiiblaaGreatRdF
import Derived.Deep.DeepCutAuto
import Derived.BigRegion
namespace Go.Proofs.YtbacakdpfiiblaaGreat.geo
open Go.ChangeShapes Go.WideShapes Go.ChangeAt Go.RowKit
open Go.Proofs.YtbacakdpfiiblaaGreat.mem
set_option linter.unusedVariables false
set_option linter.unusedSimpArgs false

section
variable {w : World} {g : Nat} {t : TypeId} {D R : List Value} {I : Nat} {v0 v1 v2 v3 v4 v5 v6 v7 : Value}
theorem Row.swap07 (h : Row w g t (D ++ ([v0, v1, v2, v3, v4, v5, v6, v7] ++ R))) (hj : D.length = I) : Row ((w.setCell ⟨g, I, none⟩ v7).setCell ⟨g, I + 7, none⟩ v0) g t (D ++ ([v7, v1, v2, v3, v4, v5, v6, v0] ++ R)) := by
  have := (h.set_ I v7).set_ (I + 7) v0
  subst hj
  simpa [List.set_append] using this
theorem Row.swap16 (h : Row w g t (D ++ ([v0, v1, v2, v3, v4, v5, v6, v7] ++ R))) (hj : D.length = I) : Row ((w.setCell ⟨g, I + 1, none⟩ v6).setCell ⟨g, I + 6, none⟩ v1) g t (D ++ ([v0, v6, v2, v3, v4, v5, v1, v7] ++ R)) := by
  have := (h.set_ (I + 1) v6).set_ (I + 6) v1
  subst hj
  simpa [List.set_append] using this
theorem Row.swap25 (h : Row w g t (D ++ ([v0, v1, v2, v3, v4, v5, v6, v7] ++ R))) (hj : D.length = I) : Row ((w.setCell ⟨g, I + 2, none⟩ v5).setCell ⟨g, I + 5, none⟩ v2) g t (D ++ ([v0, v1, v5, v3, v4, v2, v6, v7] ++ R)) := by
  have := (h.set_ (I + 2) v5).set_ (I + 5) v2
  subst hj
  simpa [List.set_append] using this
theorem Row.swap34 (h : Row w g t (D ++ ([v0, v1, v2, v3, v4, v5, v6, v7] ++ R))) (hj : D.length = I) : Row ((w.setCell ⟨g, I + 3, none⟩ v4).setCell ⟨g, I + 4, none⟩ v3) g t (D ++ ([v0, v1, v2, v4, v3, v5, v6, v7] ++ R)) := by
  have := (h.set_ (I + 3) v4).set_ (I + 4) v3
  subst hj
  simpa [List.set_append] using this
theorem Row.eight (h : Row w g t (D ++ ([v0, v1, v2, v3, v4, v5, v6, v7] ++ R))) (hj : D.length = I) :
    (w.cell? ⟨g, I, none⟩ = some v0 ∧ w.cell? ⟨g, I + 1, none⟩ = some v1 ∧ w.cell? ⟨g, I + 2, none⟩ = some v2 ∧ w.cell? ⟨g, I + 3, none⟩ = some v3 ∧ w.cell? ⟨g, I + 4, none⟩ = some v4 ∧ w.cell? ⟨g, I + 5, none⟩ = some v5 ∧ w.cell? ⟨g, I + 6, none⟩ = some v6 ∧ w.cell? ⟨g, I + 7, none⟩ = some v7) ∧
    (∀ k, k < 8 → w.frozen? ⟨g, I + k, none⟩ = false) ∧ g < w.heap.size :=
  ⟨⟨h.some_at hj 0 (by simp), h.some_at hj 1 (by simp), h.some_at hj 2 (by simp), h.some_at hj 3 (by simp), h.some_at hj 4 (by simp), h.some_at hj 5 (by simp), h.some_at hj 6 (by simp), h.some_at hj 7 (by simp)⟩, fun k hk => h.frozen_at hj k (by simpa using hk), h.lt⟩
end
theorem cut8 {R : List Nat} (h : 8 ≤ R.length) : ∃ a b c d e f g i R', R = [a, b, c, d, e, f, g, i] ++ R' := by
  match R, h with
  | a :: b :: c :: d :: e :: f :: g :: i :: R', _ => exact ⟨a, b, c, d, e, f, g, i, R', rfl⟩
theorem eight_num {I N : Nat} (h : I + 8 ≤ N) (hN : N ≤ 2000) : ∀ k : Nat, k < 8 → IntKind.i64.wrap ((I : Int) + (k : Nat)) = ((I + k : Nat) : Int) ∧ wrap64 ((I : Int) + (k : Nat)) = ((I + k : Nat) : Int) ∧ ((I + k : Nat) : Int) < (N : Int) := fun k hk => by
  refine ⟨?_, ?_, by omega⟩
  · rw [IntKind.wrap_i64]; omega
  · rw [wrap64]; omega
theorem two_grown (w : World) (g a b : Nat) (u v : Value) : w.grownBy (((w.setCell ⟨g, a, none⟩ u).setCell ⟨g, b, none⟩ v).drew) (some g) := by
  have := grown_trans (grown_set w ⟨g, a, none⟩ u) (grown_set _ ⟨g, b, none⟩ v)
  exact ⟨this.os, this.tape, this.output, this.size, this.block⟩
theorem wrapEqI (x : Int) : IntKind.i64.wrap x = wrap64 x := by rw [IntKind.wrap_i64, wrap64]
set_option maxHeartbeats 8000000 in
set_option maxRecDepth 100000 in
theorem flip_calls (g m c : Nat) (l : List Nat) (hl : l.length = 8 * m) (hm : 8 * m ≤ 2000) (w : World) (hR : Row w g 5 (BL l)) :
    Calls Tryz.prog 176 #[.slice (some ⟨g, 0, none⟩) (8 * m) c] w fun e w' => e = .returned (.tuple #[]) ∧ w.grownBy w' (some g) ∧ Row w' g 5 (BL (flips m l)) := by
  obtain ⟨N, hN⟩ : ∃ N, N = 8 * m := ⟨_, rfl⟩
  rw [← hN]
  have HR := Lib.hid hR
  have HN := Lib.hid hN
  have HL := Lib.hid hl
  have hN2 : N ≤ 2000 := by omega
  clear hR hN hl hm
  go_enter Tryz.func176, Tryz.ntmps176
  go_wp2_with fail
  go_loopg [2] m (fun q ci wr => ∃ j, j + q = m ∧ ci = .int .i64 ((8 * j : Nat) : Int) ∧ w.grownBy wr (some g) ∧ Row wr g 5 (BL (flips j l) ++ BL (l.drop (8 * j))))
  case atStart => exact ⟨0, by omega, by go_num, World.grownBy.refl w _, by simpa [flips, BL] using HR.out⟩
  case round =>
    obtain ⟨j, hj, rfl, hgr, hrow⟩ := hrel
    have HJ := Lib.hid hj
    obtain ⟨I, hI⟩ : ∃ I, I = 8 * j := ⟨_, rfl⟩
    have hnn := HN.out
    have hll := HL.out
    have hDl : (BL (flips j l)).length = I := by rw [BL_len, flips_len _ _ (by omega), hI]
    rw [← hI] at hrow ⊢
    by_cases hlt : j < m
    · obtain ⟨b0, b1, b2, b3, b4, b5, b6, b7, R', hRe⟩ := cut8 (R := l.drop I) (by rw [List.length_drop]; omega)
      rw [hRe] at hrow
      have hrow : Row wr g 5 (BL (flips j l) ++ ([.int .u8 b0, .int .u8 b1, .int .u8 b2, .int .u8 b3, .int .u8 b4, .int .u8 b5, .int .u8 b6, .int .u8 b7] ++ BL R')) := by simpa [BL] using hrow
      have HE := Lib.hid (eight_num (I := I) (N := N) (by omega) (by omega))
      have HRW := Lib.hid hrow
      have HGR := Lib.hid hgr
      obtain ⟨⟨c0, c1, c2, c3, c4, c5, c6, c7⟩, hfz, hgl⟩ := hrow.eight hDl
      have f0 := hfz 0 (by omega)
      have f7 := hfz 7 (by omega)
      obtain ⟨p0, q0, s0⟩ := HE.out 0 (by omega)
      obtain ⟨p7, q7, s7⟩ := HE.out 7 (by omega)
      have hlt2 : (I : Int) < (N : Int) := by omega
      rw [Nat.add_zero] at f0 p0 q0 s0
      have HIE := Lib.hid hI
      have HI8 := Lib.hid (show I + 8 ≤ N by omega)
      have HDL := Lib.hid hDl
      have HRE := Lib.hid hRe
      clear hrow hgr hI hnn hll hDl hRe hfz hj
      go_upto_region 3 with fail
      go_region
      obtain ⟨w2, hw2⟩ : ∃ w2, w2 = ((wr.setCell ⟨g, I, none⟩ (.int .u8 (b7 : Nat))).setCell ⟨g, I + 7, none⟩ (.int .u8 (b0 : Nat))).drew := ⟨_, rfl⟩
      rw [← hw2]
      have HRW2 := Lib.hid (show Row w2 g 5 _ from by rw [hw2]; exact (HRW.out.swap07 HDL.out))
      have HG2 := Lib.hid (show w.grownBy w2 (some g) from by rw [hw2]; exact grown_trans HGR.out (two_grown _ _ _ _ _ _))
      clear hw2 c0 c1 c2 c3 c4 c5 c6 c7 hgl f0 f7 p0 q0 s0 p7 q7 s7
      obtain ⟨⟨c0, c1, c2, c3, c4, c5, c6, c7⟩, hfz, hgl⟩ := HRW2.out.eight HDL.out
      have f1 := hfz 1 (by omega)
      have f6 := hfz 6 (by omega)
      obtain ⟨p1, q1, s1⟩ := HE.out 1 (by omega)
      obtain ⟨p6, q6, s6⟩ := HE.out 6 (by omega)
      clear hfz
      go_upto_region 4 with fail
      go_region
      obtain ⟨w3, hw3⟩ : ∃ w3, w3 = ((w2.setCell ⟨g, I + 1, none⟩ (.int .u8 (b6 : Nat))).setCell ⟨g, I + 6, none⟩ (.int .u8 (b1 : Nat))).drew := ⟨_, rfl⟩
      rw [← hw3]
      have HRW3 := Lib.hid (show Row w3 g 5 _ from by rw [hw3]; exact (HRW2.out.swap16 HDL.out))
      have HG3 := Lib.hid (show w.grownBy w3 (some g) from by rw [hw3]; exact grown_trans HG2.out (two_grown _ _ _ _ _ _))
      clear hw3 c0 c1 c2 c3 c4 c5 c6 c7 hgl f1 f6 p1 q1 s1 p6 q6 s6
      obtain ⟨⟨c0, c1, c2, c3, c4, c5, c6, c7⟩, hfz, hgl⟩ := HRW3.out.eight HDL.out
      have f2 := hfz 2 (by omega)
      have f5 := hfz 5 (by omega)
      obtain ⟨p2, q2, s2⟩ := HE.out 2 (by omega)
      obtain ⟨p5, q5, s5⟩ := HE.out 5 (by omega)
      clear hfz
      go_upto_region 5 with fail
      go_region
      obtain ⟨w4, hw4⟩ : ∃ w4, w4 = ((w3.setCell ⟨g, I + 2, none⟩ (.int .u8 (b5 : Nat))).setCell ⟨g, I + 5, none⟩ (.int .u8 (b2 : Nat))).drew := ⟨_, rfl⟩
      rw [← hw4]
      have HRW4 := Lib.hid (show Row w4 g 5 _ from by rw [hw4]; exact (HRW3.out.swap25 HDL.out))
      have HG4 := Lib.hid (show w.grownBy w4 (some g) from by rw [hw4]; exact grown_trans HG3.out (two_grown _ _ _ _ _ _))
      clear hw4 c0 c1 c2 c3 c4 c5 c6 c7 hgl f2 f5 p2 q2 s2 p5 q5 s5
      obtain ⟨⟨c0, c1, c2, c3, c4, c5, c6, c7⟩, hfz, hgl⟩ := HRW4.out.eight HDL.out
      have f3 := hfz 3 (by omega)
      have f4 := hfz 4 (by omega)
      obtain ⟨p3, q3, s3⟩ := HE.out 3 (by omega)
      obtain ⟨p4, q4, s4⟩ := HE.out 4 (by omega)
      clear hfz
      go_upto_region 6 with fail
      go_region
      obtain ⟨w5, hw5⟩ : ∃ w5, w5 = ((w4.setCell ⟨g, I + 3, none⟩ (.int .u8 (b4 : Nat))).setCell ⟨g, I + 4, none⟩ (.int .u8 (b3 : Nat))).drew := ⟨_, rfl⟩
      rw [← hw5]
      have HRW5 := Lib.hid (show Row w5 g 5 _ from by rw [hw5]; exact (HRW4.out.swap34 HDL.out))
      have HG5 := Lib.hid (show w.grownBy w5 (some g) from by rw [hw5]; exact grown_trans HG4.out (two_grown _ _ _ _ _ _))
      clear hw5 c0 c1 c2 c3 c4 c5 c6 c7 hgl f3 f4 p3 q3 s3 p4 q4 s4
      have e8 : wrap64 ((I : Int) + 8) = ((I + 8 : Nat) : Int) := by
        have h3 := HI8.out
        rw [wrap64]; omega
      have e8' : IntKind.i64.wrap ((I : Int) + 8) = ((I + 8 : Nat) : Int) := by rw [wrapEqI]; exact e8
      go_wp2_with fail
      go_roundg (m - (j + 1))
      case measure => have := HJ.out; omega
      case rel =>
        have h1 := HIE.out
        have h2 := HJ.out
        refine ⟨j + 1, by omega, ?_, HG5.out, ?_⟩
        · rw [show 8 * (j + 1) = I + 8 by omega]; rfl
        · have hr := HRW5.out
          rw [flips_snoc, show 8 * (j + 1) = I + 8 by omega, ← h1, HRE.out]
          have hd : l.drop (I + 8) = R' := by
            rw [← List.drop_drop, HRE.out]; rfl
          rw [hd]
          simpa [BL] using hr
    · obtain rfl : j = m := by omega
      have hnn := HN.out
      obtain rfl : I = N := by omega
      have hii : ((I : Nat) : Int) ≤ (I : Int) := Int.le_refl _
      have HRW := Lib.hid hrow
      have HGR := Lib.hid hgr
      have hdn : l.drop I = [] := List.drop_eq_nil_of_le (by rw [HL.out, HN.out]; exact Nat.le_refl _)
      have HDN := Lib.hid hdn
      clear hrow hgr hI hnn hdn hDl
      go_wp2_with fail
      refine bodyPost_end (results_none rfl _ _ _) rfl ⟨rfl, HGR.out, ?_⟩
      have hr := HRW.out
      rw [HDN.out] at hr
      simpa [BL] using hr
end Go.Proofs.YtbacakdpfiiblaaGreat.geo
