/-
  Contract: what the reference makes of plain data.
-/
import Derived.Test.YtbacakdpfiiblaaGreatGeoS
import Derived.Deep.DeepCutAuto
import Derived.Deep.CutBlock
namespace Go.Proofs.YtbacakdpfiiblaaGreat.geo
open Go.ChangeShapes Go.WideShapes Go.ChangeAt Go.RowKit
open Go.Proofs.YtbacakdpfiiblaaGreat.mem
set_option linter.unusedVariables false
set_option linter.unusedSimpArgs false

theorem i64_and {x y : Nat} (hx : x < 4) (hy : y < 4) : bits .and .i64 (x : Int) (y : Int) = ((x &&& y : Nat) : Int) := by
  obtain rfl | rfl | rfl | rfl := four hx <;> obtain rfl | rfl | rfl | rfl := four hy <;> decide
theorem run_uptoF {P : Program} {t e : TypeId} {i : TypeInfo} {size : Nat} (ht : P.underlying t = some (.slice e)) (hi : P.info? e = some i) (hs : i.size = size) (A : Option Addr) (n c m : Nat) (h1 : m ≤ c) (w : World) :
    (Instr.slice t (.slice A n c) none (some (.int .i64 (m : Int))) none).run P w = .ok (.slice A m c) w := by
  have h2 : (m : Int) ≤ (c : Int) := by omega
  have h3 : (0 : Int) ≤ (m : Int) := by omega
  simp [Instr.slice, run_underlying ht, Instr.sliceBounds, Instr.sliceBound, asIntOf, go_sem, sizeOf, typeInfo, hi, hs, h1, h2, h3]
theorem Sl.headF {w : World} {B : Nat} {A : Option Addr} {n : Nat} {fs : List Nat} (h : Sl w B A n 1 (FL fs)) (e : Nat) (he : e ≤ n) : Sl w B A e 1 (FL (fs.take e)) := by
  have hl : fs.length = n := by have := h.1; rw [FL_len] at this; omega
  refine ⟨by rw [FL_len, List.length_take]; omega, by have := h.2.1; omega, fun h0 => ?_⟩
  obtain ⟨b, off, hA, hb, hc⟩ := h.2.2 (by omega)
  refine ⟨b, off, hA, hb, fun j v hj => hc j v ?_⟩
  have hlt := (List.getElem?_eq_some_iff.1 hj).1
  rw [FL_len, List.length_take] at hlt
  unfold FL at hj ⊢
  rw [List.getElem?_map, List.getElem?_take, if_pos (by omega)] at hj
  rw [List.getElem?_map]
  exact hj

/-- What a leaf keeps. -/
def lfC (K : Int) (q : Nat) : Nat := if K = 1 then min q 1 else q
theorem lfC_le (K : Int) (q : Nat) : lfC K q ≤ q := by
  unfold lfC; split <;> omega
theorem lf_le (K : Int) (m W : Nat) : lfC K (m / W) * W ≤ m := Nat.le_trans (Nat.mul_le_mul_right _ (lfC_le K _)) (Nat.div_mul_le_self m W)
theorem mul_wrap {c W e : Nat} (h : e = c * W) (hb : e ≤ 4194308) : wrap64 ((c : Int) * (W : Int)) = (e : Int) := by
  rw [← wrapEq2, ← Int.natCast_mul, ← h]
  exact IntWalk.i64_in _ (by omega)
theorem len_fit {n W : Nat} (h2 : 2 ≤ W ∧ W ≤ 4) (h : n / W ≤ 1048576) : n ≤ 4194308 := by
  have h1 := Nat.div_add_mod n W
  have h3 := Nat.mod_lt n (show 0 < W by omega)
  have h4 : W * (n / W) ≤ 4 * 1048576 := Nat.mul_le_mul h2.2 h
  omega
theorem lf_three {K : Int} {q W e c : Nat} (hc : c = lfC K q) (hmul : wrap64 ((c : Int) * (W : Int)) = (e : Int)) :
    ((K == 1) = true ∧ (1 : Int) < (q : Int) ∧ wrap64 (W : Int) = (e : Int)) ∨ ((K == 1) = true ∧ (q : Int) ≤ 1 ∧ wrap64 ((q : Int) * (W : Int)) = (e : Int)) ∨ ((K == 1) = false ∧ True ∧ wrap64 ((q : Int) * (W : Int)) = (e : Int)) := by
  rw [hc] at hmul
  unfold lfC at hmul
  by_cases hk1 : K = 1
  · rw [if_pos hk1] at hmul
    by_cases hq1 : q ≤ 1
    · rw [Nat.min_eq_left hq1] at hmul
      exact .inr (.inl ⟨by simp [hk1], by omega, hmul⟩)
    · rw [Nat.min_eq_right (by omega)] at hmul
      refine .inl ⟨by simp [hk1], by omega, ?_⟩
      rw [← hmul]; simp
  · rw [if_neg hk1] at hmul
    exact .inr (.inr ⟨by simp [hk1], trivial, hmul⟩)
theorem own_cap {w : World} {base n c k : Nat} {e : TypeId} {A : Option Addr} {xs : List Value} (h : w.ownsRow base e c (.slice A n k) n xs) : n ≤ k := by
  rcases h.2 with ⟨hbad, h0⟩ | ⟨g, cap, cur, hv, _, _, h1, _⟩
  · omega
  · simp only [Value.slice.injEq] at hv
    omega
theorem four_wf {d : Nat} (h : d < 4) : (Lit.int .i64 (d : Int)).wf = true := by
  obtain rfl | rfl | rfl | rfl := four h <;> decide
theorem le_big {n : Nat} (h : n ≤ 4194308) : n ≤ big := by unfold big; omega
theorem ne_zero_of_two {W : Nat} (h : 2 ≤ W) : (W : Int) ≠ 0 := by omega
theorem new_leaf {k d : Int} {ns : List Nat} {kids : List PG} (h : kd k = 1 ∨ kd k = 2) : (PG.mk k d ns kids).new = .mk (kd k) ((dm d : Nat) : Int) (ns.take (lfC (kd k) (ns.length / wd (dm d)) * wd (dm d))) [] := by
  rw [new_eq]
  unfold lfC
  rcases h with h | h
  · rw [if_pos h, if_pos h, h]
  · rw [if_neg (by omega), if_pos h, if_neg (by omega), h]
theorem new_multi {k d : Int} {ns : List Nat} {kids : List PG} (h : ¬ (kd k = 1 ∨ kd k = 2)) : (PG.mk k d ns kids).new = joinG (kd k) (dm d) ((kids.map PG.new).filter (fitsK (kd k))) := by
  rw [new_eq, if_neg (by omega), if_neg (by omega)]

set_option maxHeartbeats 16000000 in
set_option maxRecDepth 100000 in
theorem snew_leaf (k d : Int) (A : Option Addr) (ca : Nat) (ns : List Nat) (B : Option Addr) (cb : Nat) (kids : List IG) (hleaf0 : kd k = 1 ∨ kd k = 2) (S : Nat → Prop) (w : World) (h : (IG.mk k d A ca ns B cb kids).In S w) (hfit : (IG.mk k d A ca ns B cb kids).plain.fit) :
    Calls Tryz.prog 11 #[.agg (IG.mk k d A ca ns B cb kids).enc.toArray] w (IPost w (IG.mk k d A ca ns B cb kids).plain.new) := by
  rw [IG.In] at h
  obtain ⟨hwf, -, hcap, hA, hB0, hkid0⟩ := h
  have hkid := IG.inL_iff.1 hkid0
  have hnfit := new_fit hfit
  rw [IG.plain_eq, PG.fit] at hfit
  have hfk := fun g hg => fitL_iff.1 hfit.2 _ (List.mem_map_of_mem (f := IG.plain) (a := g) hg)
  have hkb : kids.length ≤ 1048576 := by have := hfit.1.2; simpa using this
  have hpl := hfit.1.1
  have hd4 := dm_lt d
  have hns : ns.length ≤ 4194308 := len_fit (wd_two (dm d)) hpl
  obtain ⟨K, hKe⟩ : ∃ K, K = kd k := ⟨_, rfl⟩
  have hK6 := kd_bounds k
  rw [← hKe] at hK6
  have hand := bits_and3 d
  have hLF := Lib.hid (leaf_calls K)
  show Calls Tryz.prog 11 #[.agg #[.int .i64 k, .int .i64 d, .slice A ns.length ca, .slice B kids.length cb]] w _
  rw [IG.plain_eq]
  rw [IG.plain_eq] at hnfit
  obtain ⟨D, hD⟩ : ∃ D, D = dm d := ⟨_, rfl⟩
  rw [← hD] at hand hd4 hpl
  obtain ⟨i0, hi, hz0, hz1, hz2⟩ := info_parts infoGm
  obtain ⟨i1, hi1, hz01, hz11, hz21⟩ := info_parts infoF
  obtain ⟨w1, hw1⟩ : ∃ w1, w1 = ((w.alloc (.cells #[.int .i64 k, .int .i64 d, .slice A ns.length ca, .slice B kids.length cb] 25)).alloc (.cells #[.int .i64 0, .int .i64 0, .slice none 0 0, .slice none 0 0] 25)).alloc (.cells #[.int .i64 K, .int .i64 D, .slice none 0 0, .slice none 0 0] 25) := ⟨_, rfl⟩
  have hb1 : Below w.heap.size w w1 := by rw [hw1]; exact (((Below.refl _ _).alloc (Nat.le_refl _) _).alloc (by simp) _).alloc (by simp; omega) _
  have hX : Blk w1 w.heap.size 25 #[.int .i64 k, .int .i64 d, .slice A ns.length ca, .slice B kids.length cb] := by rw [hw1]; exact ((Blk.new _ _ _).alloc _).alloc _
  have hR : Blk w1 (w.heap.size + 1) 25 #[.int .i64 0, .int .i64 0, .slice none 0 0, .slice none 0 0] := by
    rw [hw1]
    have := (Blk.new (w.alloc (.cells #[.int .i64 k, .int .i64 d, .slice A ns.length ca, .slice B kids.length cb] 25)) 25 #[.int .i64 0, .int .i64 0, .slice none 0 0, .slice none 0 0]).alloc (.cells #[.int .i64 K, .int .i64 D, .slice none 0 0, .slice none 0 0] 25)
    simpa using this
  have hO : Blk w1 (w.heap.size + 2) 25 #[.int .i64 K, .int .i64 D, .slice none 0 0, .slice none 0 0] := by
    rw [hw1]
    have := Blk.new ((w.alloc (.cells #[.int .i64 k, .int .i64 d, .slice A ns.length ca, .slice B kids.length cb] 25)).alloc (.cells #[.int .i64 0, .int .i64 0, .slice none 0 0, .slice none 0 0] 25)) 25 #[.int .i64 K, .int .i64 D, .slice none 0 0, .slice none 0 0]
    simpa using this
  have hs1 : w1.heap.size = w.heap.size + 3 := by rw [hw1]; simp
  have hcase : (k < 0 ∧ K = 0) ∨ (0 ≤ k ∧ 6 < k ∧ K = 0) ∨ (0 ≤ k ∧ k ≤ 6 ∧ K = k) := by
    rw [hKe]; unfold kd; split <;> omega
  obtain ⟨n, hn⟩ : ∃ n, n = kids.length := ⟨_, rfl⟩
  obtain ⟨m, hm⟩ : ∃ m, m = ns.length := ⟨_, rfl⟩
  by_cases hleaf : K = 1 ∨ K = 2
  · rw [new_leaf (by rw [← hKe]; exact hleaf), ← hKe, ← hD, ← hm]
    rw [decide_eq_true hleaf] at hLF
    obtain ⟨hr, hr2⟩ := len_quo ns.length (wd D) hns
    have hWD := Lib.hid (@width_calls D hd4)
    have h2 := wd_two D
    have hle0 := lf_le K ns.length (wd D)
    rw [← hm] at hle0 hr hr2 hpl hcap hns hX hw1 hA
    obtain ⟨W, hWe⟩ : ∃ W, W = wd D := ⟨_, rfl⟩
    rw [← hWe] at hr hr2 h2 hWD hle0 hpl ⊢
    have hq0 : (W : Int) ≠ 0 := ne_zero_of_two h2.1
    obtain ⟨q, hqq⟩ : ∃ q, q = m / W := ⟨_, rfl⟩
    rw [← hqq] at hr hr2 hle0 hpl ⊢
    obtain ⟨c, hc⟩ : ∃ c, c = lfC K q := ⟨_, rfl⟩
    rw [← hc] at hle0 ⊢
    obtain ⟨e, he⟩ : ∃ e, e = c * W := ⟨_, rfl⟩
    rw [← he] at hle0 ⊢
    have hmul := mul_wrap he (Nat.le_trans hle0 hns)
    have HSL := Lib.hid (Sl.headF (hA.1.up hb1) e hle0)
    have hsl := fun w => run_uptoF (P := Tryz.prog) Tryz.underlying22 hi1 hz11 A m ca e (Nat.le_trans hle0 hcap.1) w
    obtain ⟨o0, o1, o2, o3, p0, p1, p2, p3, ol⟩ := cells4 hO
    obtain ⟨z0, z1, z2, z3, y0, y1, y2, y3, zl⟩ := cells4 hR
    obtain ⟨x0, x1, x2, x3, -, -, -, -, xl⟩ := cells4 hX
    rw [← hn] at hw1 x3 ⊢
    have HW1 := Lib.hid hw1
    have HB1 := Lib.hid hb1
    have HLE := Lib.hid hle0
    have HNS := Lib.hid hns
    have HE := Lib.hid he
    have HM := Lib.hid hm
    have HX := Lib.hid hX
    have HO := Lib.hid hO
    have HR := Lib.hid hR
    have HS1 := Lib.hid hs1
    have HQ := Lib.hid hpl
    rcases hcase with ⟨g1, g2⟩ | ⟨g1, g1', g2⟩ | ⟨g1, g1', g2⟩
    · exfalso; omega
    · exfalso; omega
    · have e1 : decide (k < 0) = false := decide_eq_false (by omega)
      have e2 : decide (6 < k) = false := decide_eq_false (by omega)
      rw [g2] at HW1
      have HC := Lib.hid hc
      have HKK := Lib.hid g2
      have hq3 := lf_three hc hmul
      have hle1 : (ns.take e).length = e := List.length_take_of_le (by rw [← hm]; exact hle0)
      have HL1 := Lib.hid hle1
      have HWFK := Lib.hid hwf
      clear hw1 hb1 hle0 hns he hm hX hO hR hs1 hpl hn hc g2 hqq hWe hD hKe hfit hnfit hfk hkid hkid0 hA hB0 hwf hcap hleaf0 hleaf hmul hle1
      rcases hq3 with ⟨b1, b2, b3⟩ | ⟨b1, b2, b3⟩ | ⟨b1, b2, b3⟩
      all_goals
        have b4 := (wrapEq2 _).trans b3
        go_enter Tryz.func11, Tryz.ntmps11
        go_upto_region 4 with fail
        rw [← HW1.out]
        go_wp2_with fail
        refine (hLF.out _).mono ?_
        rintro e9 w9 ⟨rfl, h9⟩
        obtain rfl := h9.symm
        have HLF := Lib.hid hLF
        clear hLF
        go_wp2_with fail
        go_quiet ((go_at_call 28; exact Calls.quiet_of_same (hWD.out _)))
        rw [hr2]
        obtain ⟨w2, hw2⟩ : ∃ w2, w2 = w1.drewN nq := ⟨_, rfl⟩
        rw [← hw2]
        have hb2 : Below w1.heap.size w1 w2 := by rw [hw2]; exact drewN_below _ _ _
        have HB2 := Lib.hid hb2
        have HSL2 := Lib.hid (HSL.out.up hb2)
        have HO2 := Lib.hid (HO.out.below hb2 HO.out.lt)
        have HR2 := Lib.hid (HR.out.below hb2 HR.out.lt)
        clear hw2 o0 o1 o2 o3 p0 p1 p2 p3 ol z0 z1 z2 z3 y0 y1 y2 y3 zl
        have x2 := (hb2.cell (p := ⟨w.heap.size, 2, none⟩) xl).trans x2
        obtain ⟨o0, o1, o2, o3, p0, p1, p2, p3, ol⟩ := cells4 HO2.out
        clear hb2
        go_wp2_with fail
        go_region_law (first
          | (refine step_append_sl _ (by rfl) _ _ _ (by rfl) w2.heap.size 31 i1 _ 1 8 Tryz.underlying22 hi1 hz01 hz11 hz21 rfl (by decide) (.slice none 0 0) 0 [] (by rfl) (World.ownsRow_nil _ _ _ _)
                w2.heap.size A e ca (FL (ns.take e)) (by rfl) HSL2.out (FL_one _) (by have := HNS.out; have := HLE.out; clear hr hr2; unfold maxLen; omega) (by have := HNS.out; have := HLE.out; clear hr hr2; omega) (Nat.le_refl _) ?_; intro A5 c5 w6 ho6 hg6 ha6
             have hb6 : Below w2.heap.size w2 w6 := by
               have hz : Below w2.heap.size w2 w2 := Below.refl _ _
               first
                 | exact hz.grown hg6 (Nat.le_refl _) (fun r hr => by cases hr)
                 | exact hz.drew.grown hg6 (Nat.le_refl _) (fun r hr => by cases hr)
                 | exact hz.drew.drew.grown hg6 (Nat.le_refl _) (fun r hr => by cases hr)
             have HB6 := Lib.hid hb6
             obtain ⟨o0, o1, o2, o3, p0, p1, p2, p3, ol⟩ := cells4 (HO2.out.below hb6 HO2.out.lt)
             obtain ⟨z0, z1, z2, z3, y0, y1, y2, y3, zl⟩ := cells4 (HR2.out.below hb6 HR2.out.lt)
             have HO6 := Lib.hid ho6
             clear hb6 hg6 ha6 ho6)
          | (go_simp; go_at_call 28; refine (hWD.out _).mono ?_; rintro e5 w5 ⟨rfl, h5⟩; obtain rfl := h5.symm))
        all_goals
          go_wp2_with fail
          have ho6 := HO6.out
          rw [Nat.zero_add, List.nil_append] at ho6
          have hcap : e ≤ c5 := own_cap ho6
          have hsz : w2.heap.size ≤ w6.heap.size := HB6.out.size
          have hs2 : w1.heap.size ≤ w2.heap.size := HB2.out.size
          have hs1 : w1.heap.size = w.heap.size + 3 := HS1.out
          have hno : ∀ i, i < 3 → ¬ (fun a => w2.heap.size ≤ a) (w.heap.size + i) := fun i hi h => by have h0 : w2.heap.size ≤ w.heap.size + i := h; clear hr hr2 hi1; omega
          have hks : Keeps (fun a => w2.heap.size ≤ a) w6 (((((w6.setCell ⟨w.heap.size + 1 + 1, 2, none⟩ (.slice A5 e c5)).setCell ⟨w.heap.size + 1, 0, none⟩ (.int .i64 K)).setCell ⟨w.heap.size + 1, 1, none⟩ (.int .i64 D)).setCell ⟨w.heap.size + 1, 2, none⟩ (.slice A5 e c5)).setCell ⟨w.heap.size + 1, 3, none⟩ (.slice none 0 0)) :=
            (((((Keeps.refl _ w6).setFar (hno 2 (by decide)) _).setFar (hno 1 (by decide)) _).setFar (hno 1 (by decide)) _).setFar (hno 1 (by decide)) _).setFar (hno 1 (by decide)) _
          have hbw : Below w.heap.size w w6 := HB1.out.trans ((HB2.out.trans (HB6.out.mono HB2.out.size)).mono HB1.out.size)
          have hgr1 : w.heap.size ≤ w.heap.size + 1 := Nat.le_add_right _ _
          have hgr2 : w.heap.size ≤ w.heap.size + 1 + 1 := Nat.le_add_right _ 2
          have hwf := HWFK.out
          have heb : e ≤ big := le_big (Nat.le_trans HLE.out HNS.out)
          refine bodyPost_ret (v := .agg #[.int .i64 K, .int .i64 D, .slice A5 e c5, .slice none 0 0]) (by simp [results, Tryz.results11, go_sem, z0, z1, z2, z3, zl]) rfl ⟨.mk K D A5 c5 (ns.take e) none 0 [], by rw [IG.enc, HL1.out]; rfl, ?_, ?_, ((((hbw.setCell hgr2 _).setCell hgr1 _).setCell hgr1 _).setCell hgr1 _).setCell hgr1 _⟩
          · rw [IG.In]
            refine ⟨⟨by rw [HKK.out]; exact hwf.1, four_wf hd4⟩, ⟨by rw [HL1.out]; exact heb, Nat.zero_le _⟩, ⟨by rw [HL1.out]; exact hcap, Nat.le_refl _⟩, ?_, ⟨Sl.nil _ _ _, fun h => absurd h (Nat.lt_irrefl 0)⟩, trivial⟩
            rw [HL1.out]
            have h1 : SlS (fun a => w2.heap.size ≤ a) w6 A5 e 1 (FL (ns.take e)) := ⟨Sl.of_own ho6, fun _ a ha => (ho6.lt a.block (by rw [ha]; rfl)).1⟩
            exact (h1.keep hks).less (fun a ha => Nat.le_trans HB1.out.size (Nat.le_trans hs2 ha))
          · rw [IG.plain_eq]; rfl
  · exact absurd (by rw [hKe]; exact hleaf0) hleaf
end Go.Proofs.YtbacakdpfiiblaaGreat.geo
